/- Parts F19 L1 K4 K5 D8 D9 D1 Q2 Q11. -/
import Derived.Test.YtfkecmlmnhbmoaaGreatDoorW33
set_option linter.unusedVariables false
set_option linter.unusedSimpArgs false
set_option maxRecDepth 100000
set_option maxHeartbeats 40000000
namespace Go.Proofs.YtfkecmlmnhbmoaaGreatDoor
open Go Go.RowKit
theorem a64_short (W0:World)(hF:FInit3 W0)(l:By)(hok:numOk l)(s:ByteArray)(hs:s.data.toList=l)(hs2:s.size≤1000)(hM:¬(rfF (numStrip l) 0 0 0 false).1=0)(htr:(rfF (numStrip l) 0 0 0 false).2.2.2=false):∃x,nnF x∧A64 W0 l s x:=by
 have hopt:=hF.opt;have hfb:=run_frombits;obtain⟨M,nd,dp,tr,hR,hM19,hdp1,hdp2,hnd60,hndp,hM0,htr20⟩:=rf_facts hok;obtain⟨ng,hng⟩:∃ng,headIs l (· == 45)=ng:=⟨_,rfl⟩;have hrf:=fun w=>rf_any w s l hs hok hs2;have hsp:=fun w=>special_any w s l hs hok hs2;unfold rfRet at hrf;rw[hR]at hM;simp only at hM;simp only[hR,hng,if_neg hM]at hrf;obtain⟨p,hp⟩:∃p,p=dp-(min nd 19:Nat):=⟨_,rfl⟩;rw[←hp]at hrf;have hp1:-100≤p:=by omega
 have hp2:p≤20:=by omega
 have hMb:((M:Int)==0)=false:=by simp;omega
 have hM9:M<18446744073709551616:=by omega
 have y30:∀(a b c:Value),([a,b,c]:List Value)[0]?=some a:=fun _ _ _=>rfl;have y31:∀(a b c:Value),([a,b,c]:List Value)[1]?=some b:=fun _ _ _=>rfl;have y32:∀(a b c:Value),([a,b,c]:List Value)[2]?=some c:=fun _ _ _=>rfl;have y70:∀(a b c d e f g:Value),([a,b,c,d,e,f,g]:List Value)[0]?=some a:=fun _ _ _ _ _ _ _=>rfl;have y71:∀(a b c d e f g:Value),([a,b,c,d,e,f,g]:List Value)[1]?=some b:=fun _ _ _ _ _ _ _=>rfl;have y72:∀(a b c d e f g:Value),([a,b,c,d,e,f,g]:List Value)[2]?=some c:=fun _ _ _ _ _ _ _=>rfl;have y73:∀(a b c d e f g:Value),([a,b,c,d,e,f,g]:List Value)[3]?=some d:=fun _ _ _ _ _ _ _=>rfl;have y74:∀(a b c d e f g:Value),([a,b,c,d,e,f,g]:List Value)[4]?=some e:=fun _ _ _ _ _ _ _=>rfl;have y75:∀(a b c d e f g:Value),([a,b,c,d,e,f,g]:List Value)[5]?=some f:=fun _ _ _ _ _ _ _=>rfl;have y76:∀(a b c d e f g:Value),([a,b,c,d,e,f,g]:List Value)[6]?=some g:=fun _ _ _ _ _ _ _=>rfl;have sh0:∀w:World,(Op.shift BinOp.shl IntKind.u64 0 IntKind.u64 63).run Tryz.prog w=.ok (.int .u64 0) w:=fun _=>by kernel_rfl
 obtain⟨S63,hS63⟩:∃S63:Int,S63=9223372036854775808:=⟨_,rfl⟩;obtain⟨o1,ho1⟩:∃o1:Int,o1=1:=⟨_,rfl⟩;have sh1:∀w:World,(Op.shift BinOp.shl IntKind.u64 o1 IntKind.u64 63).run Tryz.prog w=.ok (.int .u64 S63) w:=fun _=>by rw[hS63,ho1];kernel_rfl
 have sh2:IntKind.u64.wrap (o1*9223372036854775808)=S63:=by rw[ho1,hS63];decide
 have Ho1:=xhd ho1;clear ho1
 have hS0:0≤S63:=by omega
 have hS1:S63≤18446744073709551615:=by omega
 have HS63:=xhd hS63;clear hS63
 rw[hR]at htr;simp only at htr;subst htr;have hex:=ex_any W0 hF.toFInit2 hF.nz M hM9 p hp1 hp2 ng;obtain⟨xe,ok,hxn,hex⟩:=hex;obtain⟨Hrf,Hsp,Hng,HR,Hs,Hex,Hp,HM⟩:=xh8 hrf hsp hng hR hs hex hp hM;clear hrf hsp hng hR hs hex hp hM
 clear hok hfb hM0 htr20 hM19 hndp
 cases ng
 ·obtain⟨xp,hpn,hpf⟩:=pf64_ex W0 hF.toFInit2 M hM9 p hp1 hp2 0 (.inl rfl)
  have Hpf:=xhd hpf;clear hpf
  cases ok
  ·refine⟨xp,hpn,fun w hE=>?_⟩
   clear hpn hxn;have e0:=hE.cell hopt;go_enter Tryz.func107,Tryz.ntmps107;go_wp2_with fail
   refine(Hsp.out _).mono ?_;rintro e w1⟨rfl,hw⟩;subst w1;go_wp2_with fail
   refine(Hrf.out _).mono ?_;rintro e w1⟨rfl,hw⟩;subst w1;go_wp2_with fail
   refine(b2_f _).mono ?_;rintro e w1⟨rfl,hw⟩;subst w1;go_wp2_with fail
   refine(Hex.out _ hE).mono ?_;rintro e w1⟨rfl,hw⟩;subst w1;go_wp2_with fail
   refine(Hpf.out _ hE).mono ?_;rintro e w1⟨rfl,hg⟩;have Hg:=xhd hg;clear hg
   go_wp2_with fail
   go_ret3;exact⟨rfl,Hg.out⟩
  ·refine⟨xe,hxn rfl,fun w hE=>?_⟩
   clear hpn hxn;have e0:=hE.cell hopt;go_enter Tryz.func107,Tryz.ntmps107;go_wp2_with fail
   refine(Hsp.out _).mono ?_;rintro e w1⟨rfl,hw⟩;subst w1;go_wp2_with fail
   refine(Hrf.out _).mono ?_;rintro e w1⟨rfl,hw⟩;subst w1;go_wp2_with fail
   refine(b2_f _).mono ?_;rintro e w1⟨rfl,hw⟩;subst w1;go_wp2_with fail
   refine(Hex.out _ hE).mono ?_;rintro e w1⟨rfl,hw⟩;subst w1;go_wp2_with fail
   go_ret3;exact⟨rfl,xgr _ _⟩
 ·obtain⟨xp,hpn,hpf⟩:=pf64_ex W0 hF.toFInit2 M hM9 p hp1 hp2 S63 (.inr HS63.out)
  have Hpf:=xhd hpf;clear hpf
  cases ok
  ·refine⟨xp,hpn,fun w hE=>?_⟩
   clear hpn hxn;have e0:=hE.cell hopt;go_enter Tryz.func107,Tryz.ntmps107;go_wp2_with fail
   refine(Hsp.out _).mono ?_;rintro e w1⟨rfl,hw⟩;subst w1;go_wp2_with fail
   refine(Hrf.out _).mono ?_;rintro e w1⟨rfl,hw⟩;subst w1;go_wp2_with fail
   refine(b2_tv Ho1.out _).mono ?_;rintro e w1⟨rfl,hw⟩;subst w1;go_wp2_with fail
   refine(Hex.out _ hE).mono ?_;rintro e w1⟨rfl,hw⟩;subst w1;go_wp2_with fail
   refine(Hpf.out _ hE).mono ?_;rintro e w1⟨rfl,hg⟩;have Hg:=xhd hg;clear hg
   go_wp2_with fail
   go_ret3;exact⟨rfl,Hg.out⟩
  ·refine⟨xe,hxn rfl,fun w hE=>?_⟩
   clear hpn hxn;have e0:=hE.cell hopt;go_enter Tryz.func107,Tryz.ntmps107;go_wp2_with fail
   refine(Hsp.out _).mono ?_;rintro e w1⟨rfl,hw⟩;subst w1;go_wp2_with fail
   refine(Hrf.out _).mono ?_;rintro e w1⟨rfl,hw⟩;subst w1;go_wp2_with fail
   refine(b2_tv Ho1.out _).mono ?_;rintro e w1⟨rfl,hw⟩;subst w1;go_wp2_with fail
   refine(Hex.out _ hE).mono ?_;rintro e w1⟨rfl,hw⟩;subst w1;go_wp2_with fail
   go_ret3;exact⟨rfl,xgr _ _⟩
open Go.Maps
def kidsV:PV→List PV
 | .arr kids=>kids | .dict _ kids=>kids|_=>[]
def keysV:PV→List By
 | .dict keys _=>keys|_=>[]
theorem IsVs.get {S:Nat→Prop}{w:World} : ∀(ps:List PV) (c:List Value),IsVs S w ps c→∀(i:Nat) p,ps[i]?=some p→∃ks vs,IsV S w p ks vs∧∀j u,(c7 p ks vs)[j]?=some u→c[i*7+j]?=some u
 | [],c,h,i,p,hi=>by simp at hi
 | q :: ps, c, h, i, p, hi => by
  simp only[IsVs]at h;obtain⟨ks,vs,rest,h1,h2,h3⟩:=h;subst h1
  cases i with
  | zero =>
   simp at hi;subst hi
   refine⟨ks,vs,h2,fun j u hj=>?_⟩;rw[List.getElem?_append_left (by have:=(List.getElem?_eq_some_iff.1 hj).1;omega)];simpa using hj
  | succ i =>
   obtain⟨ks',vs',h4,h5⟩:=IsVs.get ps rest h3 i p (by simpa using hi);refine⟨ks',vs',h4,fun j u hj=>?_⟩;have hl:(c7 q ks vs).length=7:=rfl;rw[List.getElem?_append_right (by omega),hl,show (i+1)*7+j-7=i*7+j by omega];exact h5 j u hj
theorem IsV.view {S:Nat→Prop}{w:World}{x:PV}{ks vs:Value}(h:IsV S w x ks vs):∃ko kc vo vc,ks=.slice ko (keysV x).length kc∧vs=.slice vo (kidsV x).length vc∧(keysV x).length≤maxLen∧(kidsV x).length≤maxLen ∧
  ((keysV x).length=0∨∃b i,ko=some ⟨b,i,none⟩∧S b∧∀j u,(kvals (keysV x))[j]?=some u→w.cell? ⟨b,i+j,none⟩=some u) ∧
  ((kidsV x).length=0∨∃b i,vo=some ⟨b,i,none⟩∧S b∧∀j p,(kidsV x)[j]?=some p→∃ks' vs',IsV S w p ks' vs'∧∀m u,(c7 p ks' vs')[m]?=some u→w.cell? ⟨b,i+j*7+m,none⟩=some u):=by
 have kid:∀(kids:List PV) (cells:List Value),IsVs S w kids cells→∀vs,SlAt S w vs 7 kids.length cells→∃vo vc,vs=.slice vo kids.length vc∧kids.length≤maxLen∧(kids.length=0∨∃b i,vo=some ⟨b,i,none⟩∧S b∧∀j p,kids[j]?=some p→∃ks' vs',IsV S w p ks' vs'∧∀m u,(c7 p ks' vs')[m]?=some u→w.cell? ⟨b,i+j*7+m,none⟩=some u):=by
  intro kids cells hI vs hs;obtain⟨_,o,c,rfl,h1,h2,h3⟩:=hs;refine⟨o,c,rfl,Nat.le_trans h1 h2,?_⟩;rcases h3 with h3|⟨b,i,rfl,hb,hc⟩
  ·exact .inl h3
  ·refine .inr ⟨b,i,rfl,hb,fun j p hj=>?_⟩
   obtain⟨ks',vs',h4,h5⟩:=IsVs.get kids cells hI j p hj;exact⟨ks',vs',h4,fun m u hm=>by rw[Nat.add_assoc];exact hc _ u (h5 m u hm)⟩
 have key:∀(keys:List By) (ks:Value),SlAt S w ks 1 keys.length (kvals keys)→∃ko kc,ks=.slice ko keys.length kc∧keys.length≤maxLen∧(keys.length=0∨∃b i,ko=some ⟨b,i,none⟩∧S b∧∀j u,(kvals keys)[j]?=some u→w.cell? ⟨b,i+j,none⟩=some u):=by
  intro keys ks hs;obtain⟨_,o,c,rfl,h1,h2,h3⟩:=hs;exact⟨o,c,rfl,Nat.le_trans h1 h2,h3⟩
 cases x
 case arr kids =>
  simp only[IsV]at h;obtain⟨h1,cells,h2,h3⟩:=h;obtain⟨vo,vc,rfl,a1,a2⟩:=kid kids cells h3 vs h2;obtain⟨ko,kc,rfl,b1,b2⟩:=key [] ks h1;exact⟨ko,kc,vo,vc,rfl,rfl,b1,a1,b2,a2⟩
 case dict keys kids =>
  simp only[IsV]at h;obtain⟨h1,cells,h2,h3⟩:=h;obtain⟨vo,vc,rfl,a1,a2⟩:=kid kids cells h3 vs h2;obtain⟨ko,kc,rfl,b1,b2⟩:=key keys ks h1;exact⟨ko,kc,vo,vc,rfl,rfl,b1,a1,b2,a2⟩
 all_goals
  simp only[IsV]at h;obtain⟨vo,vc,rfl,a1,a2⟩:=kid [] [] (by simp[IsVs]) vs h.2;obtain⟨ko,kc,rfl,b1,b2⟩:=key [] ks h.1;exact⟨ko,kc,vo,vc,rfl,rfl,b1,a1,b2,a2⟩
theorem kind_null (x:PV):(pvKind x != 0)=!x.isNull:=by cases x<;>rfl
theorem nnz_take {l:List PV}{i:Nat}{p:PV}(h:l[i]?=some p):nnz (l.take (i+1))=nnz (l.take i)+(if p.isNull then 0 else 1):=by
 rw[List.take_add_one,h];unfold nnz;rw[List.filter_append,List.length_append]
 cases hp:p.isNull<;>simp[hp]
theorem nnz_le (l:List PV):nnz l≤l.length:=List.length_filter_le _ _
theorem entries_any (x:PV)(S:Nat→Prop)(w:World)(ks vs:Value)(hI:IsV S w x ks vs)(hS:∀k,S k→k<w.heap.size) :
  Calls Tryz.prog 26 #[valOf x ks vs] w fun e w'=>e=.returned (.int .i64 (nnz (kidsV x):Nat))∧w.grownBy w' none:=by
 obtain⟨ko,kc,vo,vc,rfl,rfl,-,hmx,-,hv⟩:=hI.view;unfold valOf;obtain⟨kids,hk⟩:∃l,l=kidsV x:=⟨_,rfl⟩;rw[←hk]at hv hmx⊢;obtain⟨N,hN⟩:∃N,N=kids.length:=⟨_,rfl⟩;rw[←hN]at hv hmx⊢;generalize pvKind x=k1;generalize pvInt x=k2;generalize pvGen x=k3;generalize pvReal x=k4;generalize (⟨(pvText x).toArray⟩:ByteArray)=k5;generalize (keysV x).length=kn;clear hk hI x;obtain⟨Hv,HN,HS⟩:=xh3 hv hN hS;have hM:N≤9223372036854775807:=by unfold maxLen at hmx;omega
 clear hv hN hS hmx;go_enter Tryz.func26,Tryz.ntmps26;go_wp2_with fail
 go_loopg [3,9] N (fun g t3 t9 wr=>∃i,t9=.int .i64 (i:Nat)∧t3=.int .i64 (nnz (kids.take i):Nat)∧g=N-i∧i≤N∧w.grownBy wr none)
 case atStart=>exact⟨0,rfl,rfl,rfl,Nat.zero_le _,gr_alloc (xgr w none) _⟩
 case round =>
  obtain⟨i,rfl,rfl,hg,hi,hgw⟩:=hrel;obtain⟨Hgw,Hg⟩:=xh2 hgw hg;clear hgw hg
  by_cases hiN:i<N
  ·rcases Hv.out with h0|⟨b0,i0,rfl,hSb,hcells⟩
   ·omega
   obtain⟨p,hp⟩:∃p,kids[i]?=some p:=⟨_,List.getElem?_eq_getElem (by rw[←HN.out];exact hiN)⟩;obtain⟨ksi,vsi,hIi,hci⟩:=hcells i p hp;obtain⟨⟨kso,ksn,ksc,rfl⟩,⟨vso,vsn,vsc,rfl⟩⟩:=hIi.slices;have hblk:=Hgw.out.block b0 (HS.out b0 hSb) (by simp);have hcc:∀j u,(c7 p (.slice kso ksn ksc) (.slice vso vsn vsc))[j]?=some u→wr.cell? ⟨b0,i0+i*7+j,none⟩=some u:=fun j u hj=>(World.cell?_of_block hblk).trans (hci j u hj);have e0:wr.cell? ⟨b0,i0+i*7,none⟩=_:=hcc 0 _ rfl;have e1:=hcc 1 _ rfl;have e2:=hcc 2 _ rfl;have e3:=hcc 3 _ rfl;have e4:=hcc 4 _ rfl;have e5:=hcc 5 _ rfl;have e6:=hcc 6 _ rfl;have hkn:=kind_null p;have hnz:=nnz_take hp;have hle:=nnz_le (kids.take i);have hle2:=nnz_le (kids.take (i+1));rw[List.length_take]at hle hle2;have hnm:(i:Int)<N:=by omega
   generalize pvKind p=p1 at *;generalize pvInt p=p2 at *;generalize pvGen p=p3 at *;generalize pvReal p=p4 at *;generalize (⟨(pvText p).toArray⟩:ByteArray)=p5 at *;obtain⟨c,hc⟩:∃c,c=nnz (kids.take i):=⟨_,rfl⟩;obtain⟨c',hc'⟩:∃c',c'=nnz (kids.take (i+1)):=⟨_,rfl⟩;rw[←hc,←hc']at hnz;rw[←hc]at hle⊢;rw[←hc']at hle2;have Hc':=xhd hc';have hal:=gr_alloc (xgr wr none) (.cells #[.int .i64 p1,.int .i64 p2,.int .i64 p3,.float .f64 p4,.string p5,.slice kso ksn ksc,.slice vso vsn vsc] 30);have Hal:=xhd (Hgw.out.trans hal);clear hcc hIi hci hp hcells hblk hal hc hc';have hwi:IntKind.i64.wrap ((i:Int)+1)=(i:Int)+1:=IntWalk.i64_in _ (by omega);have hwc:IntKind.i64.wrap ((c:Int)+1)=(c:Int)+1:=IntWalk.i64_in _ (by omega)
   cases hnl:p.isNull
   all_goals
    rw[hnl]at hkn hnz;simp only[Bool.not_true,Bool.not_false,Bool.false_eq_true,if_false,if_true]at hkn hnz;have Hnz:=xhd hnz;clear hnz hnl;go_wp2_with fail
    go_roundg (N-(i+1))
    case measure=>rw[Hg.out];omega
    case rel=>exact⟨i+1,by simp,by rw[←Hc'.out,Hnz.out];simp,rfl,by omega,Hal.out⟩
  ·obtain rfl:i=N:=by omega
   have htk:kids.take i=kids:=List.take_of_length_le (by have:=HN.out;omega);rw[htk];clear htk;go_wp2_with fail
   go_ret;exact⟨rfl,Hgw.out⟩
theorem en_ret {w3:World}{B:Nat}{a0 a1 a2 a3 a4 a5 a6 v0 v1 v2 v3 v4 v5 v6 u5:Value}{tmps:Array Value}{R:Ending→World→Prop}(h2:tmps.getD 4 undef=.pointer (some ⟨B,0,none⟩))(h3:tmps.getD 5 undef=u5)
  (hz:w3.heap[B]?=some (.cells #[a0,a1,a2,a3,a4,a5,a6] 30 (0,0)))
  (hR:∀w',(∀w0 r,World.grownBy w0 w3 r→w0.heap.size≤B→World.grownBy w0 w' r)→R (.returned (.tuple #[.agg #[v0,v1,v2,v3,v4,v5,v6],u5])) w'):bodyPost Tryz.prog Tryz.f27 R Exit.ret { tmps:=tmps,defers:=[] } (set7 w3 B v0 v1 v2 v3 v4 v5 v6).drew:=by
 have hz4:=set7_at hz v0 v1 v2 v3 v4 v5 v6;have hR4:=hR (set7 w3 B v0 v1 v2 v3 v4 v5 v6).drew (fun w0 r hg hB=>gr_drew (set7_gr hg hB v0 v1 v2 v3 v4 v5 v6));generalize set7 w3 B v0 v1 v2 v3 v4 v5 v6=w4 at *;have hz5:w4.drew.heap[B]?=some (.cells #[v0,v1,v2,v3,v4,v5,v6] 30 (0,0)):=hz4;obtain⟨y0,y1,y2,y3,y4,y5,y6,yf⟩:=cells7 hz5;simp only[Array.getD_eq_getD_getElem?]at h2 h3;exact bodyPost_ret (v:=.tuple #[.agg #[v0,v1,v2,v3,v4,v5,v6],u5]) (by simp[results,Tryz.results27,go_sem,h2,h3,y0,y1,y2,y3,y4,y5,y6]) rfl hR4
def EnPost (S:Nat→Prop)(w w':World)(p:PV)(e:Ending):Prop:=∃ks' vs',e=.returned (.tuple #[valOf p ks' vs',.bool (!p.isNull)])∧IsV S w p ks' vs'∧w.grownBy w' none
theorem entry_any (x:PV)(S:Nat→Prop)(w:World)(ks vs:Value)(key:By)(hI:IsV S w x ks vs)(hS:∀k,S k→k<w.heap.size)(j:Nat)(p:PV)(hj:(keysV x)[j]?=some key)(hfirst:∀j':Nat,j'<j→(keysV x)[j']?≠some key)(hp:(kidsV x)[j]?=some p) :
  Calls Tryz.prog 27 #[valOf x ks vs,.string ⟨key.toArray⟩] w fun e w'=>EnPost S w w' p e:=by
 obtain⟨ko,kc,vo,vc,rfl,rfl,hmk,hmx,hkv,hv⟩:=hI.view;unfold valOf;obtain⟨keys,hk⟩:∃l,l=keysV x:=⟨_,rfl⟩;obtain⟨kids,hd⟩:∃l,l=kidsV x:=⟨_,rfl⟩;rw[←hk]at hkv hmk hj hfirst⊢;rw[←hd]at hv hmx hp⊢;have hjk:=(List.getElem?_eq_some_iff.1 hj).1;have hjv:=(List.getElem?_eq_some_iff.1 hp).1;rcases hkv with h0|⟨bk,ik,rfl,hSk,hkc⟩
 ·omega
 rcases hv with h0|⟨b0,i0,rfl,hSb,hcells⟩
 ·omega
 obtain⟨ksi,vsi,hIi,hci⟩:=hcells j p hp;obtain⟨⟨kso,ksn,ksc,rfl⟩,⟨vso,vsn,vsc,rfl⟩⟩:=hIi.slices;obtain⟨N,hN⟩:∃N,N=kids.length:=⟨_,rfl⟩;obtain⟨M,hM⟩:∃M,M=keys.length:=⟨_,rfl⟩;have hM2:M≤9223372036854775807:=by unfold maxLen at hmk;omega
 have hkx:∀i:Nat,i<M→∃kt:ByteArray,w.cell? ⟨bk,ik+i,none⟩=some (.string kt)∧(i<j→(kt.toList==(⟨key.toArray⟩:ByteArray).toList)=false)∧(i=j→kt=⟨key.toArray⟩):=by
  intro i hi;obtain⟨q,hq⟩:∃q,keys[i]?=some q:=⟨_,List.getElem?_eq_getElem (by omega)⟩;refine⟨⟨q.toArray⟩,hkc i _ (by simp[kvals,hq]),fun h=>?_,fun h=>?_⟩
  ·rw[ByteArray.toList_eq,ByteArray.toList_eq]
   simp only[beq_eq_false_iff_ne];intro e;exact hfirst i h (by rw[hq];exact congrArg some (by simpa using e))
  ·subst h
   rw[hj]at hq;injection hq with hq;rw[hq]
 rw[←hM,←hN];have hIp:=hIi;generalize hgx:pvKind x=k1;generalize pvInt x=k2;generalize pvGen x=k3;generalize pvReal x=k4;generalize (⟨(pvText x).toArray⟩:ByteArray)=k5;generalize (⟨key.toArray⟩:ByteArray)=kx at hkx⊢;obtain⟨q0,q1⟩:=alloc2 w w.heap.size rfl (.cells #[.int .i64 k1,.int .i64 k2,.int .i64 k3,.float .f64 k4,.string k5,.slice (some ⟨bk,ik,none⟩) M kc,.slice (some ⟨b0,i0,none⟩) N vc] 30) (.cells #[.int .i64 0,.int .i64 0,.int .i64 0,.float .f64 0,.string ⟨#[]⟩,.slice none 0 0,.slice none 0 0] 30);have hGW:w.grownBy ((w.alloc (.cells #[.int .i64 k1,.int .i64 k2,.int .i64 k3,.float .f64 k4,.string k5,.slice (some ⟨bk,ik,none⟩) M kc,.slice (some ⟨b0,i0,none⟩) N vc] 30)).alloc (.cells #[.int .i64 0,.int .i64 0,.int .i64 0,.float .f64 0,.string ⟨#[]⟩,.slice none 0 0,.slice none 0 0] 30)) none:=gr_alloc (gr_alloc (xgr w none) _) _;obtain⟨W,hW⟩:∃W,W=((w.alloc (.cells #[.int .i64 k1,.int .i64 k2,.int .i64 k3,.float .f64 k4,.string k5,.slice (some ⟨bk,ik,none⟩) M kc,.slice (some ⟨b0,i0,none⟩) N vc] 30)).alloc (.cells #[.int .i64 0,.int .i64 0,.int .i64 0,.float .f64 0,.string ⟨#[]⟩,.slice none 0 0,.slice none 0 0] 30)):=⟨_,rfl⟩;rw[←hW]at q0 q1 hGW;have hbk:=hGW.block bk (hS bk hSk) (by simp);have hblk:=hGW.block b0 (hS b0 hSb) (by simp);have hcc:∀m u,(c7 p (.slice kso ksn ksc) (.slice vso vsn vsc))[m]?=some u→W.cell? ⟨b0,i0+j*7+m,none⟩=some u:=fun m u hm=>(World.cell?_of_block hblk).trans (hci m u hm);have e0:W.cell? ⟨b0,i0+j*7,none⟩=_:=hcc 0 _ rfl;have e1:=hcc 1 _ rfl
 have e2:=hcc 2 _ rfl;have e3:=hcc 3 _ rfl;have e4:=hcc 4 _ rfl;have e5:=hcc 5 _ rfl;have e6:=hcc 6 _ rfl;have hkn:=kind_null p;obtain⟨HIp,HGW⟩:=xh2 hIp hGW
 have Hkx:=xhd (show ∀i:Nat,i<M→∃kt:ByteArray,W.cell? ⟨bk,ik+i,none⟩=some (.string kt)∧(i<j→(kt.toList==kx.toList)=false)∧(i=j→kt=kx) from fun i hi=>by
  obtain⟨kt,h1,h2,h3⟩:=hkx i hi
  exact⟨kt,(World.cell?_of_block hbk).trans h1,h2,h3⟩)
 have hne1:¬b0=w.heap.size+1:=by have:=hS b0 hSb;omega
 have hne2:¬w.heap.size+1=b0:=fun e=>hne1 e.symm;have hjM:j<M:=by omega
 have hjN:j<N:=by omega
 have hN2:N≤9223372036854775807:=by unfold maxLen at hmx;omega
 have HQ1:=xhd q1;obtain⟨z0,z1,z2,z3,z4,z5,z6,zf⟩:=cells7 q0;unfold EnPost valOf;generalize hp1:pvKind p=p1 at *;generalize pvInt p=p2 at *;generalize pvGen p=p3 at *;generalize pvReal p=p4 at *;generalize (⟨(pvText p).toArray⟩:ByteArray)=p5 at *;clear hIi hci hcells hcc hkx hbk hblk hIp hI hj hfirst hp hgx hGW hjk hjv hM hN hd hk hkc hSk hSb hS q0 q1 hmk hmx hp1;go_enter Tryz.func27,Tryz.ntmps27;go_wp2_with fail
 rw[←hW];clear hW
 go_loopg [11] (j+1) (fun g t11 wr=>∃i,t11=.int .i64 (i:Nat)∧g=j+1-i∧i≤j∧wr=W)
 case atStart=>exact⟨0,rfl,rfl,Nat.zero_le _,rfl⟩
 case round =>
  obtain⟨i,rfl,hg,hi,rfl⟩:=hrel;have Hg:=xhd hg;clear hg;obtain⟨kt,d0,hne,heq⟩:=Hkx.out i (by omega);have hnm:(i:Int)<M:=by omega
  by_cases hij:i=j
  ·obtain rfl:=heq hij
   subst hij;clear hne heq;obtain⟨r0,r1,r2,r3,r4,r5,r6,rf⟩:=cells7 HQ1.out
   cases hnl:p.isNull
   all_goals
    rw[hnl]at hkn;simp only[Bool.not_true,Bool.not_false]at hkn;go_wp2_with fail
    go_region
    go_wp2_with fail
    refine en_ret rfl rfl HQ1.out ?_;intro w' hgr;exact⟨_,_,by rw[hnl];rfl,HIp.out,hgr _ _ HGW.out (by omega)⟩
  ·have hne:=hne (by omega)
   have hwi:IntKind.i64.wrap ((i:Int)+1)=(i:Int)+1:=IntWalk.i64_in _ (by omega);clear heq;go_wp2_with fail
   go_roundg (j+1-(i+1))
   case measure=>rw[Hg.out];omega
   case rel=>exact⟨i+1,by simp,rfl,by omega,rfl⟩
theorem fr_ret {w3:World}{B:Nat}{a0 a1 a2 a3 a4 a5 a6 v0 v1 v2 v3 v4 v5 v6 u3:Value}{tmps:Array Value}{R:Ending→World→Prop}(h2:tmps.getD 2 undef=.pointer (some ⟨B,0,none⟩))(h3:tmps.getD 3 undef=u3)
  (hz:w3.heap[B]?=some (.cells #[a0,a1,a2,a3,a4,a5,a6] 30 (0,0)))
  (hR:∀w',(∀k,k≠B→w'.heap[k]?=w3.heap[k]?)→w'.heap.size=w3.heap.size→(∀w0 r,World.grownBy w0 w3 r→w0.heap.size≤B→World.grownBy w0 w' r)→R (.returned (.tuple #[.agg #[v0,v1,v2,v3,v4,v5,v6],u3])) w'):bodyPost Tryz.prog Tryz.f18 R Exit.ret { tmps:=tmps,defers:=[] } (set7 w3 B v0 v1 v2 v3 v4 v5 v6):=by
 have hz4:=set7_at hz v0 v1 v2 v3 v4 v5 v6;have hR4:=hR _ (fun k hk=>set7_other w3 B k v0 v1 v2 v3 v4 v5 v6 hk) (set7_size w3 B v0 v1 v2 v3 v4 v5 v6) (fun w0 r hg hB=>set7_gr hg hB v0 v1 v2 v3 v4 v5 v6);generalize set7 w3 B v0 v1 v2 v3 v4 v5 v6=w4 at *;obtain⟨y0,y1,y2,y3,y4,y5,y6,yf⟩:=cells7 hz4;simp only[Array.getD_eq_getD_getElem?]at h2 h3;exact bodyPost_ret (v:=.tuple #[.agg #[v0,v1,v2,v3,v4,v5,v6],u3]) (by simp[results,Tryz.results18,go_sem,h2,h3,y0,y1,y2,y3,y4,y5,y6]) rfl hR4
theorem fr_retd {w3:World}{B:Nat}{a0 a1 a2 a3 a4 a5 a6 v0 v1 v2 v3 v4 v5 v6 u3:Value}{tmps:Array Value}{R:Ending→World→Prop}(h2:tmps.getD 2 undef=.pointer (some ⟨B,0,none⟩))(h3:tmps.getD 3 undef=u3)
  (hz:w3.heap[B]?=some (.cells #[a0,a1,a2,a3,a4,a5,a6] 30 (0,0)))
  (hR:∀w',(∀w0 r,World.grownBy w0 w3 r→w0.heap.size≤B→World.grownBy w0 w' r)→R (.returned (.tuple #[.agg #[v0,v1,v2,v3,v4,v5,v6],u3])) w'):bodyPost Tryz.prog Tryz.f18 R Exit.ret { tmps:=tmps,defers:=[] } (set7 w3 B v0 v1 v2 v3 v4 v5 v6).drew:=by
 have hz4:=set7_at hz v0 v1 v2 v3 v4 v5 v6;have hR4:=hR (set7 w3 B v0 v1 v2 v3 v4 v5 v6).drew (fun w0 r hg hB=>gr_drew (set7_gr hg hB v0 v1 v2 v3 v4 v5 v6));generalize set7 w3 B v0 v1 v2 v3 v4 v5 v6=w4 at *;have hz5:w4.drew.heap[B]?=some (.cells #[v0,v1,v2,v3,v4,v5,v6] 30 (0,0)):=hz4;obtain⟨y0,y1,y2,y3,y4,y5,y6,yf⟩:=cells7 hz5;simp only[Array.getD_eq_getD_getElem?]at h2 h3;exact bodyPost_ret (v:=.tuple #[.agg #[v0,v1,v2,v3,v4,v5,v6],u3]) (by simp[results,Tryz.results18,go_sem,h2,h3,y0,y1,y2,y3,y4,y5,y6]) rfl hR4
def Z30:Obj:=.cells #[.int .i64 0,.int .i64 0,.int .i64 0,.float .f64 0,.string ⟨#[]⟩,.slice none 0 0,.slice none 0 0] 30 (0,0)
theorem fr_world (w:World)(o:Obj):w.grownBy ((w.alloc o).alloc Z30) none∧((w.alloc o).alloc Z30).heap[w.heap.size]?=some o∧((w.alloc o).alloc Z30).heap[w.heap.size+1]?=some Z30 :=
 ⟨gr_alloc (gr_alloc (xgr w none) _) _,(alloc2 w w.heap.size rfl o Z30).1,(alloc2 w w.heap.size rfl o Z30).2⟩
def NbPost (s:By)(w w':World)(e:Ending):Prop:=∃b:Bool,e=.returned (.bool b)∧w'=w∧(b=true→∀c∈s,(c.toNat:Int)≠0)
theorem nameable_all (s:By)(hl:s.length≤140737488351232)(w:World):Calls Tryz.prog 35 #[.string (bs s)] w fun e w'=>NbPost s w w' e:=by
 have hzl:(bs s).size=s.length:=bs_size s
 have hat:∀(i:Nat) (hi:i<(bs s).size),s[i]?=some ((bs s)[i]):=fun i hi=>by
  rw[bs_get];exact List.getElem?_eq_getElem _
 have hsz:(bs s).size≤140737488351232:=by rw[bs_size];exact hl
 obtain⟨z,hz⟩:∃z,z=bs s:=⟨_,rfl⟩;rw[←hz]at hat hsz hzl⊢;obtain⟨Hat,Hzl,Hz⟩:=xh3 hat hzl hz;clear hz hat hzl hl;go_enter Tryz.func35,Tryz.ntmps35;go_wp2_with fail
 go_loopg [6] z.size (fun g t6 wr=>∃i,t6=.int .i64 (i:Nat)∧i≤z.size∧g=z.size-i∧wr=w∧∀c∈s.take i,(c.toNat:Int)≠0)
 case atStart=>exact⟨0,rfl,Nat.zero_le _,rfl,rfl,by simp⟩
 case round =>
  obtain⟨i,rfl,hi,hg,rfl,hall⟩:=hrel;obtain⟨Hg,Hall⟩:=xh2 hg hall;clear hg hall
  by_cases hiz:i<z.size
  ·have h0:=Hat.out i hiz
   have hnm:(i:Int)<z.size:=by omega
   have hwi:IntKind.i64.wrap ((i:Int)+1)=(i:Int)+1:=IntWalk.i64_in _ (by omega);obtain⟨c,hc⟩:∃c,z[i]=c:=⟨_,rfl⟩;rw[hc]at h0;have H0:=xhd h0;clear h0;rcases xbt ((c.toNat:Int)==0) with hb|hb
   ·go_wp2_with fail
    go_ret;exact⟨false,rfl,rfl,fun h=>by cases h⟩
   ·go_wp2_with fail
    go_roundg (z.size-(i+1))
    case measure=>rw[Hg.out];omega
    case rel =>
     refine⟨i+1,by simp,by omega,rfl,rfl,fun d hd=>?_⟩;rw[List.take_add_one,H0.out]at hd;rcases List.mem_append.1 hd with h|h
     ·exact Hall.out d h
     ·simp at h;subst h;simpa using hb
  ·have hie:i=z.size:=by omega
   have hnm:¬(i:Int)<z.size:=by omega
   have Hie:=xhd hie;clear hie;go_wp2_with fail
   go_ret;refine⟨true,rfl,rfl,fun _=>?_⟩;have:=Hall.out;rw[List.take_of_length_le (by rw[Hie.out,Hzl.out];exact Nat.le_refl _)]at this;exact this
def LbPost (s:By)(w w':World)(e:Ending):Prop:=∃(t:By) (b:Bool),e=.returned (.tuple #[.string (bs t),.bool b])∧w.grownBy w' none∧(b=true→litF (40::(s++[41])) 0 []=some (t,[]))
theorem litbytes_all (s:By)(hl:s.length≤140737488351232)(w:World):Calls Tryz.prog 33 #[.string (bs s)] w fun e w'=>LbPost s w w' e:=by
 have e1:(⟨#[40]⟩:ByteArray)=bs [40]:=rfl;have e2:(⟨#[41]⟩:ByteArray)=bs [41]:=rfl;have ha:bs [40]++bs s=bs (40::s):=bs_append [40] s;have ha2:bs (40::s)++bs [41]=bs (40::(s++[41])):=bs_append (40::s) [41];have hn1:¬9223372036854775807<(bs [40]).size+(bs s).size:=by rw[bs_size,bs_size];simp;omega
 have hn2:¬9223372036854775807<(bs (40::s)).size+(bs [41]).size:=by rw[bs_size,bs_size];simp;omega
 have hR0:∀z,z=bs (40::(s++[41]))→RdAt (w.alloc (.cells #[.string z,.int .i64 0,.int .i64 0,.int .i64 0,.bool false,.bool false] 57 (0,0))) w.heap.size z [] (40::(s++[41])) 0 0 false false:=fun z hz=>⟨by rw[hz,bs_list];rfl,heap_alloc_new _ _⟩;have hg0:∀o,w.grownBy (w.alloc o) none:=fun o=>gr_alloc (xgr w none) _;have hz3:(bs (40::(s++[41]))).size≤140737488351240:=by rw[bs_size];simp;omega
 generalize hz:bs (40::(s++[41]))=z at *;have hR1:=hR0 z rfl;generalize bs (40::s)=z1 at *;generalize bs s=z0 at *;have hl46:=lit_any _ _ _ _ _ _ _ _ _ hR1 hz3;have Hg0:=xhd hg0;have Hsz:=xhd (show (z.size:Int)=(40::(s++[41])).length by rw[←hz,bs_size]);obtain⟨R,hR⟩:∃R,R=litF (40::(s++[41])) 0 []:=⟨_,rfl⟩;rw[←hR]at hl46;obtain⟨HR,Hl46⟩:=xh2 hR hl46;clear hg0 hR0 hR1 hz3 hz hR hl46
 cases R with
 | none =>
  go_enter Tryz.func33,Tryz.ntmps33;go_wp2_with fail
  refine Hl46.out.mono ?_;rintro e w1⟨rfl,⟨p',hR⟩,hg1⟩;have hG1:w.grownBy w1 none:=gr_noneThen (Hg0.out _) hg1 (fun k hk=>by injection hk with hk;omega);obtain⟨c0,c1,c2,c3,c4,c5,cf⟩:=hR.cells;simp only[failB]at c2;have HG1:=xhd hG1;clear hR hg1 hG1 Hl46;go_wp2_with fail
  go_quiet (fail);go_wp2_with fail
  go_ret2;exact⟨[],false,rfl,by first|exact HG1.out|exact gr_drew HG1.out|exact gr_drewN HG1.out _,fun h=>by cases h⟩
 | some q =>
  obtain⟨t,r⟩:=q;go_enter Tryz.func33,Tryz.ntmps33;go_wp2_with fail
  refine Hl46.out.mono ?_;rintro e w1⟨rfl,⟨p',hR⟩,hg1⟩;have hG1:w.grownBy w1 none:=gr_noneThen (Hg0.out _) hg1 (fun k hk=>by injection hk with hk;omega);obtain⟨c0,c1,c2,c3,c4,c5,cf⟩:=hR.cells;have hps:z.size=p'.length+r.length:=hR.size;have HG1:=xhd hG1;have Hbt:=xhd (show (⟨t.toArray⟩:ByteArray)=bs t from rfl)
  by_cases hr:r=[]
  ·have hpe:p'.length=z.size:=by rw[hr]at hps;simp at hps;exact hps.symm
   rw[hpe]at c1;have Hr:=xhd hr;clear hR hg1 hG1 Hl46 hps hr hpe;go_wp2_with fail
   go_quiet (fail);go_wp2_with fail
   go_ret2;exact⟨t,true,rfl,by first|exact HG1.out|exact gr_drew HG1.out|exact gr_drewN HG1.out _,fun _=>by rw[←HR.out,Hr.out]⟩
  ·have hpe:((p'.length:Int)==(z.size:Int))=false:=by
    have:0<r.length:=List.length_pos_iff.2 hr;simp;omega
   clear hR hg1 hG1 Hl46 hps hr;generalize p'.length=pl at *;go_wp2_with fail
   go_quiet (fail);go_wp2_with fail
   go_ret2;exact⟨t,false,rfl,by first|exact HG1.out|exact gr_drew HG1.out|exact gr_drewN HG1.out _,fun h=>by cases h⟩
def HbPost (s:By)(w w':World)(e:Ending):Prop:=∃(t:By) (b:Bool),e=.returned (.tuple #[.string (bs t),.bool b])∧w.grownBy w' none∧(b=true→t=hexT s∧∀c∈s,0≤hexVal (c.toNat:Int))
theorem hexbytes_bad (s:By)(h:¬∀c∈s,0≤hexVal (c.toNat:Int))(hl:s.length≤140737488351232)(w:World):Calls Tryz.prog 34 #[.string (bs s)] w fun e w'=>HbPost s w w' e:=by
 have hat:∀(i:Nat) (hi:i<(bs s).size),s[i]?=some ((bs s)[i]):=fun i hi=>by
  rw[bs_get];exact List.getElem?_eq_getElem _
 have hzl:(bs s).size=s.length:=bs_size s;have hsz:(bs s).size≤140737488351232:=by rw[bs_size];exact hl
 obtain⟨z0,hz⟩:∃z,z=bs s:=⟨_,rfl⟩;rw[←hz]at hat hsz hzl⊢;obtain⟨Hat,Hzl,Hh⟩:=xh3 hat hzl h;clear hz hat hzl hl h;go_enter Tryz.func34,Tryz.ntmps34;go_wp2_with fail
 go_loopg [9] z0.size (fun g t9 wr=>∃i,t9=.int .i64 (i:Nat)∧i≤z0.size∧g=z0.size-i∧wr=w∧∀c∈s.take i,0≤hexVal (c.toNat:Int))
 case atStart=>exact⟨0,rfl,Nat.zero_le _,rfl,rfl,by simp⟩
 case round =>
  obtain⟨i,rfl,hi,hg,rfl,hall⟩:=hrel;obtain⟨Hg,Hall⟩:=xh2 hg hall;clear hg hall
  by_cases hiz:i<z0.size
  ·have h0:=Hat.out i hiz
   have hrg:=bi_range (z0[i]);have hx:=hex_any ((z0[i]).toNat:Int) hrg.1 hrg.2;obtain⟨c,hc⟩:∃c,z0[i]=c:=⟨_,rfl⟩;rw[hc]at h0 hx;have H0:=xhd h0;obtain⟨hh,hhe⟩:∃hh,hh=hexVal (c.toNat:Int):=⟨_,rfl⟩;rw[←hhe]at hx;have Hhe:=xhd hhe;have hnm:(i:Int)<z0.size:=by omega
   have hwi:IntKind.i64.wrap ((i:Int)+1)=(i:Int)+1:=IntWalk.i64_in _ (by omega);clear hrg h0 hhe
   by_cases hv:hh<0
   ·go_wp2_with fail
    refine(hx _).mono ?_;rintro e w2⟨rfl,hw2⟩;subst w2;go_wp2_with fail
    go_ret2;exact⟨[],false,rfl,xgr _ _,fun h=>by cases h⟩
   ·go_wp2_with fail
    refine(hx _).mono ?_;rintro e w2⟨rfl,hw2⟩;subst w2;go_wp2_with fail
    go_roundg (z0.size-(i+1))
    case measure=>rw[Hg.out];omega
    case rel =>
     refine⟨i+1,by simp,by omega,rfl,rfl,fun d hd=>?_⟩;rw[List.take_add_one,H0.out]at hd;rcases List.mem_append.1 hd with h|h
     ·exact Hall.out d h
     ·simp at h;subst h;rw[←Hhe.out];omega
  ·exfalso
   refine Hh.out fun c hc=>Hall.out c ?_;rw[List.take_of_length_le (by rw[←Hzl.out];omega)];exact hc
theorem hexbytes_all (s:By)(hl:s.length≤140737488351232)(w:World):Calls Tryz.prog 34 #[.string (bs s)] w fun e w'=>HbPost s w w' e:=by
 by_cases h:∀c∈s,0≤hexVal (c.toNat:Int)
 ·refine(hexbytes_any s (hexT s) h (hex_read h []) hl w).mono ?_
  rintro e w'⟨rfl,hg⟩;exact⟨_,true,rfl,hg,fun _=>⟨rfl,h⟩⟩
 ·exact hexbytes_bad s h hl w
inductive OB where
 | mk (k i g:Int)(r:Nat)(t:By)(keys:List By)(kids:List OB)
def OB.k:OB→Int | .mk k _ _ _ _ _ _=>k
def OB.i:OB→Int | .mk _ i _ _ _ _ _=>i
def OB.g:OB→Int | .mk _ _ g _ _ _ _=>g
def OB.r:OB→Nat | .mk _ _ _ r _ _ _=>r
def OB.t:OB→By | .mk _ _ _ _ t _ _=>t
def OB.keys:OB→List By | .mk _ _ _ _ _ keys _=>keys
def OB.kids:OB→List OB | .mk _ _ _ _ _ _ kids=>kids
def b7 (o:OB)(ks vs:Value):List Value:=[.int .i64 o.k,.int .i64 o.i,.int .i64 o.g,.float .f64 o.r,.string (bs o.t),ks,vs]
def obV (o:OB)(ks vs:Value):Value:=.agg #[.int .i64 o.k,.int .i64 o.i,.int .i64 o.g,.float .f64 o.r,.string (bs o.t),ks,vs]
mutual
def IsB (S:Nat→Prop)(w:World):OB→Value→Value→Prop
 | .mk _ _ _ _ _ keys kids,ks,vs=>SlAt S w ks 1 keys.length (kvals keys)∧∃cells,SlAt S w vs 7 kids.length cells∧IsBs S w kids cells
def IsBs (S:Nat→Prop)(w:World):List OB→List Value→Prop
 | [],cells=>cells=[]
 | x::xs,cells=>∃ks vs rest,cells=b7 x ks vs++rest∧IsB S w x ks vs∧IsBs S w xs rest
end
mutual
theorem IsB.keep {S S':Nat→Prop}{w w':World}(hS:∀k,S k→S' k∧w'.heap[k]?=w.heap[k]?):∀(x:OB) (ks vs:Value),IsB S w x ks vs→IsB S' w' x ks vs
 | .mk _ _ _ _ _ keys kids,ks,vs,h=>by
  simp only[IsB]at h⊢;obtain⟨h1,cells,h2,h3⟩:=h;exact⟨h1.keep hS,cells,h2.keep hS,IsBs.keep hS kids cells h3⟩
theorem IsBs.keep {S S':Nat→Prop}{w w':World}(hS:∀k,S k→S' k∧w'.heap[k]?=w.heap[k]?):∀(xs:List OB) (cells:List Value),IsBs S w xs cells→IsBs S' w' xs cells
 | [],cells,h=>by simp only[IsBs]at h⊢;exact h
 | x::xs,cells,h=>by
  simp only[IsBs]at h⊢;obtain⟨ks,vs,rest,h1,h2,h3⟩:=h;exact⟨ks,vs,rest,h1,IsB.keep hS x ks vs h2,IsBs.keep hS xs rest h3⟩
end
theorem IsBs.get {S:Nat→Prop}{w:World} : ∀(ps:List OB) (c:List Value),IsBs S w ps c→∀(i:Nat) p,ps[i]?=some p→∃ks vs,IsB S w p ks vs∧∀j u,(b7 p ks vs)[j]?=some u→c[i*7+j]?=some u
 | [],c,h,i,p,hi=>by simp at hi
 | q :: ps, c, h, i, p, hi => by
  simp only[IsBs]at h;obtain⟨ks,vs,rest,h1,h2,h3⟩:=h;subst h1
  cases i with
  | zero =>
   simp at hi;subst hi
   refine⟨ks,vs,h2,fun j u hj=>?_⟩;rw[List.getElem?_append_left (by have:=(List.getElem?_eq_some_iff.1 hj).1;omega)];simpa using hj
  | succ i =>
   obtain⟨ks',vs',h4,h5⟩:=IsBs.get ps rest h3 i p (by simpa using hi);refine⟨ks',vs',h4,fun j u hj=>?_⟩;have hl:(b7 q ks vs).length=7:=rfl;rw[List.getElem?_append_right (by omega),hl,show (i+1)*7+j-7=i*7+j by omega];exact h5 j u hj
theorem IsB.slices {S:Nat→Prop}{w:World}{x:OB}{ks vs:Value}(h:IsB S w x ks vs):∃ko kc vo vc,ks=.slice ko x.keys.length kc∧vs=.slice vo x.kids.length vc∧x.keys.length≤maxLen∧x.kids.length≤maxLen:=by
 cases x
 simp only[IsB]at h;obtain⟨⟨_,o,c,rfl,h1,h2,_⟩,cells,⟨_,o2,c2,rfl,h3,h4,_⟩,_⟩:=h;exact⟨_,_,_,_,rfl,rfl,Nat.le_trans h1 h2,Nat.le_trans h3 h4⟩
theorem IsB.key {S:Nat→Prop}{w:World}{x:OB}{ks vs:Value}(h:IsB S w x ks vs):(x.keys=[]∨∃b i,(∃n c,ks=.slice (some ⟨b,i,none⟩) n c)∧S b∧∀j k,x.keys[j]?=some k→w.cell? ⟨b,i+j,none⟩=some (.string (bs k))):=by
 cases x
 simp only[IsB,OB.keys]at h⊢;obtain⟨⟨_,o,c,rfl,h1,h2,h3⟩,_⟩:=h;rcases h3 with h3|⟨b,i,rfl,h4,h5⟩
 ·exact .inl (List.eq_nil_of_length_eq_zero h3)
 ·refine .inr ⟨b,i,⟨_,_,rfl⟩,h4,fun j k hj=>h5 j _ ?_⟩
  unfold kvals;rw[List.getElem?_map,hj];rfl
theorem IsB.kid {S:Nat→Prop}{w:World}{x:OB}{ks vs:Value}(h:IsB S w x ks vs):(x.kids=[]∨∃b i,(∃n c,vs=.slice (some ⟨b,i,none⟩) n c)∧S b∧∀(j:Nat) p,x.kids[j]?=some p→∃ks' vs',IsB S w p ks' vs'∧∀(m:Nat) u,(b7 p ks' vs')[m]?=some u→w.cell? ⟨b,i+(j*7+m),none⟩=some u):=by
 cases x
 simp only[IsB,OB.kids]at h⊢;obtain⟨_,cells,⟨hl,o,c,rfl,h1,h2,h3⟩,hI⟩:=h;rcases h3 with h3|⟨b,i,rfl,h4,h5⟩
 ·exact .inl (List.eq_nil_of_length_eq_zero h3)
 ·refine .inr ⟨b,i,⟨_,_,rfl⟩,h4,fun j p hj=>?_⟩
  obtain⟨ks',vs',h6,h7⟩:=IsBs.get _ _ hI j p hj;exact⟨ks',vs',h6,fun m u hm=>h5 _ _ (h7 m u hm)⟩
mutual
def bkB:OB→Nat
 | .mk _ _ _ _ t keys kids=>t.length+(keys.map fun k=>k.length+1).sum+bkBs kids+1
def bkBs:List OB→Nat
 | []=>0
 | x::xs=>bkB x+bkBs xs
end
mutual
def fwB:OB→Nat
 | .mk _ _ _ _ t keys kids=>1+t.length/16+(keys.map fun k=>k.length/16).sum+fwBs kids
def fwBs:List OB→Nat
 | []=>0
 | x::xs=>fwB x+fwBs xs
end
mutual
def lvB:OB→Nat
 | .mk _ _ _ _ _ _ kids=>lvBs kids+1
def lvBs:List OB→Nat
 | []=>0
 | x::xs=>max (lvB x) (lvBs xs)
end
theorem bkBs_mem {x:OB} : ∀ {xs:List OB},x∈xs→bkB x≤bkBs xs
 | [],h=>by simp at h
 | y::ys,h=>by
  simp only[bkBs];rcases List.mem_cons.1 h with rfl|h
  ·omega
  ·have:=bkBs_mem h;omega
theorem fwBs_mem {x:OB} : ∀ {xs:List OB},x∈xs→fwB x≤fwBs xs
 | [],h=>by simp at h
 | y::ys,h=>by
  simp only[fwBs];rcases List.mem_cons.1 h with rfl|h
  ·omega
  ·have:=fwBs_mem h;omega
theorem lvBs_mem {x:OB} : ∀ {xs:List OB},x∈xs→lvB x≤lvBs xs
 | [],h=>by simp at h
 | y::ys,h=>by
  simp only[lvBs];rcases List.mem_cons.1 h with rfl|h
  ·omega
  ·have:=lvBs_mem h;omega
theorem fwBs_len:∀(xs:List OB),xs.length≤fwBs xs
 | []=>by simp
 | y::ys=>by
  have h1:=fwBs_len ys;have h2:1≤fwB y:=by cases y;simp only[fwB];omega
  simp only[fwBs,List.length_cons];omega
theorem fwBs_take:∀ {l:List OB} {i:Nat} {p:OB},l[i]?=some p→fwBs (l.take (i+1))=fwBs (l.take i)+fwB p
 | [],i,p,h=>by simp at h
 | y::ys,0,p,h=>by simp at h;subst h;simp[fwBs]
 | y::ys,i+1,p,h=>by
  have:=fwBs_take (l:=ys) (i:=i) (p:=p) (by simpa using h);simp only[List.take_succ_cons,fwBs,this];omega
theorem sum_mem {l:List Nat}{x:Nat}(h:x∈l):x≤l.sum:=by
 induction l with
 | nil=>simp at h
 | cons y ys ih =>
  rw[List.sum_cons];rcases List.mem_cons.1 h with rfl|h
  ·omega
  ·have:=ih h;omega
theorem fw_text {o:OB}{n:Nat}(h:fwB o≤n):o.t.length/16+1≤n:=by cases o;simp only[fwB,OB.t]at *;omega
theorem fw_key {o:OB}{n:Nat}(h:fwB o≤n){k:By}(hk:k∈o.keys):k.length/16+1≤n:=by
 cases o
 simp only[fwB,OB.keys]at *;have:=sum_mem (List.mem_map.2 ⟨k,hk,rfl⟩:k.length/16∈List.map (fun k:By=>k.length/16) _);omega
theorem fw_kids {o:OB}{n:Nat}(h:fwB o≤n):o.kids.length+1≤n:=by
 cases o
 simp only[fwB,OB.kids]at *;have:=fwBs_len ‹List OB›;omega
theorem fw_kid {o p:OB}(h:p∈o.kids):fwB p≤fwB o:=by
 cases o
 simp only[fwB,OB.kids]at *;have:=fwBs_mem h;omega
theorem lv_kid {o p:OB}(h:p∈o.kids):lvB p+1≤lvB o:=by
 cases o
 simp only[lvB,OB.kids]at *;have:=lvBs_mem h;omega
mutual
def Img:PO→OB→Prop
 | .null,o=>o.k=0
 | .bool b,o=>o.k=1∧o.i=(if b then 1 else 0)
 | .int n,o=>o.k=2∧o.i=n
 | .real x,o=>o.k=3∧o.r=x
 | .lit s,o=>o.k=4∧o.t=s
 | .hexl s,o=>o.k=5∧o.t=s
 | .name s,o=>o.k=6∧o.t=s
 | .arr ps,o=>o.k=7∧Imgs ps o.kids
 | .dict keys ps,o=>o.k=8∧o.keys=keys∧Imgs ps o.kids
 | .ref n g,o=>o.k=9∧o.i=n∧o.g=g
def Imgs:List PO→List OB→Prop
 | [],l=>l=[]
 | p::ps,l=>∃o os,l=o::os∧Img p o∧Imgs ps os
end
theorem Imgs.len:∀ {ps:List PO} {l:List OB},Imgs ps l→ps.length=l.length
 | [],l,h=>by simp only[Imgs]at h;subst h;rfl
 | p::ps,l,h=>by
  simp only[Imgs]at h;obtain⟨o,os,rfl,_,h2⟩:=h;simp[Imgs.len h2]
theorem Imgs.get:∀ {ps:List PO} {l:List OB},Imgs ps l→∀(i:Nat) o,l[i]?=some o→∃p,ps[i]?=some p∧Img p o
 | [],l,h,i,o,hi=>by simp only[Imgs]at h;subst h;simp at hi
 | p::ps,l,h,i,o,hi=>by
  simp only[Imgs]at h;obtain⟨o',os,rfl,h1,h2⟩:=h
  cases i with
  | zero=>simp at hi;subst hi;exact⟨p,rfl,h1⟩
  | succ i=>simpa using Imgs.get h2 i o (by simpa using hi)
theorem Imgs.snoc:∀ {ps:List PO} {l:List OB} {p:PO} {o:OB},Imgs ps l→Img p o→Imgs (ps++[p]) (l++[o])
 | [],l,p,o,h,hp=>by simp only[Imgs]at h;subst h;simp only[List.nil_append,Imgs];exact⟨o,[],rfl,hp,rfl⟩
 | q::ps,l,p,o,h,hp=>by
  simp only[Imgs,List.cons_append]at h⊢;obtain⟨o',os,rfl,h1,h2⟩:=h;exact⟨o',os++[o],rfl,h1,Imgs.snoc h2 hp⟩
mutual
def wfB:OB→Prop
 | .mk _ _ _ r t keys kids=>r<18446744073709551616∧t.length≤140737488351232∧keys.length≤140737488351232∧(∀k∈keys,k.length≤140737488351232)∧kids.length*96≤140737488351232∧wfBs kids
def wfBs:List OB→Prop
 | []=>True
 | o::os=>wfB o∧wfBs os
end
theorem wfBs_mem {x:OB} : ∀ {xs:List OB},wfBs xs→x∈xs→wfB x
 | [],_,h=>by simp at h
 | y::ys,hw,h=>by
  simp only[wfBs]at hw;rcases List.mem_cons.1 h with rfl|h
  ·exact hw.1
  ·exact wfBs_mem hw.2 h
theorem wf_all {o:OB}(h:wfB o):o.r<18446744073709551616∧o.t.length≤140737488351232∧o.keys.length≤140737488351232∧(∀k∈o.keys,k.length≤140737488351232)∧o.kids.length*96≤140737488351232∧∀p∈o.kids,wfB p:=by
 cases o
 simp only[wfB,OB.r,OB.t,OB.keys,OB.kids]at h⊢;exact⟨h.1,h.2.1,h.2.2.1,h.2.2.2.1,h.2.2.2.2.1,fun p hp=>wfBs_mem h.2.2.2.2.2 hp⟩
end Go.Proofs.YtfkecmlmnhbmoaaGreatDoor
namespace Go.Proofs.YtfkecmlmnhbmoaaGreatDoor
open Go Go.RowKit
@[go_sem] theorem ta_77_81 (v:Value)(w:World):(Instr.typeAssert (.iface 77 v) 50 81 true).run Tryz.prog w=.ok (.tuple #[.map none,.bool false]) w:=by kernel_rfl
@[go_sem] theorem ta_73_81 (v:Value)(w:World):(Instr.typeAssert (.iface 73 v) 50 81 true).run Tryz.prog w=.ok (.tuple #[.map none,.bool false]) w:=by kernel_rfl
@[go_sem] theorem ta_73_77 (v:Value)(w:World):(Instr.typeAssert (.iface 73 v) 50 77 true).run Tryz.prog w=.ok (.tuple #[.slice none 0 0,.bool false]) w:=by kernel_rfl
@[go_sem] theorem ta_71_81 (v:Value)(w:World):(Instr.typeAssert (.iface 71 v) 50 81 true).run Tryz.prog w=.ok (.tuple #[.map none,.bool false]) w:=by kernel_rfl
@[go_sem] theorem ta_71_77 (v:Value)(w:World):(Instr.typeAssert (.iface 71 v) 50 77 true).run Tryz.prog w=.ok (.tuple #[.slice none 0 0,.bool false]) w:=by kernel_rfl
@[go_sem] theorem ta_71_73 (v:Value)(w:World):(Instr.typeAssert (.iface 71 v) 50 73 true).run Tryz.prog w=.ok (.tuple #[.agg #[.int .i64 0,.int .i64 0],.bool false]) w:=by kernel_rfl
@[go_sem] theorem ta_67_81 (v:Value)(w:World):(Instr.typeAssert (.iface 67 v) 50 81 true).run Tryz.prog w=.ok (.tuple #[.map none,.bool false]) w:=by kernel_rfl
@[go_sem] theorem ta_67_77 (v:Value)(w:World):(Instr.typeAssert (.iface 67 v) 50 77 true).run Tryz.prog w=.ok (.tuple #[.slice none 0 0,.bool false]) w:=by kernel_rfl
@[go_sem] theorem ta_67_73 (v:Value)(w:World):(Instr.typeAssert (.iface 67 v) 50 73 true).run Tryz.prog w=.ok (.tuple #[.agg #[.int .i64 0,.int .i64 0],.bool false]) w:=by kernel_rfl
@[go_sem] theorem ta_67_71 (v:Value)(w:World):(Instr.typeAssert (.iface 67 v) 50 71 true).run Tryz.prog w=.ok (.tuple #[.string ⟨#[]⟩,.bool false]) w:=by kernel_rfl
@[go_sem] theorem ta_68_81 (v:Value)(w:World):(Instr.typeAssert (.iface 68 v) 50 81 true).run Tryz.prog w=.ok (.tuple #[.map none,.bool false]) w:=by kernel_rfl
@[go_sem] theorem ta_68_77 (v:Value)(w:World):(Instr.typeAssert (.iface 68 v) 50 77 true).run Tryz.prog w=.ok (.tuple #[.slice none 0 0,.bool false]) w:=by kernel_rfl
@[go_sem] theorem ta_68_73 (v:Value)(w:World):(Instr.typeAssert (.iface 68 v) 50 73 true).run Tryz.prog w=.ok (.tuple #[.agg #[.int .i64 0,.int .i64 0],.bool false]) w:=by kernel_rfl
@[go_sem] theorem ta_68_71 (v:Value)(w:World):(Instr.typeAssert (.iface 68 v) 50 71 true).run Tryz.prog w=.ok (.tuple #[.string ⟨#[]⟩,.bool false]) w:=by kernel_rfl
@[go_sem] theorem ta_66_81 (v:Value)(w:World):(Instr.typeAssert (.iface 66 v) 50 81 true).run Tryz.prog w=.ok (.tuple #[.map none,.bool false]) w:=by kernel_rfl
@[go_sem] theorem ta_66_77 (v:Value)(w:World):(Instr.typeAssert (.iface 66 v) 50 77 true).run Tryz.prog w=.ok (.tuple #[.slice none 0 0,.bool false]) w:=by kernel_rfl
@[go_sem] theorem ta_66_73 (v:Value)(w:World):(Instr.typeAssert (.iface 66 v) 50 73 true).run Tryz.prog w=.ok (.tuple #[.agg #[.int .i64 0,.int .i64 0],.bool false]) w:=by kernel_rfl
@[go_sem] theorem ta_66_71 (v:Value)(w:World):(Instr.typeAssert (.iface 66 v) 50 71 true).run Tryz.prog w=.ok (.tuple #[.string ⟨#[]⟩,.bool false]) w:=by kernel_rfl
@[go_sem] theorem ta_66_67 (v:Value)(w:World):(Instr.typeAssert (.iface 66 v) 50 67 true).run Tryz.prog w=.ok (.tuple #[.int .i64 0,.bool false]) w:=by kernel_rfl
@[go_sem] theorem ta_66_68 (v:Value)(w:World):(Instr.typeAssert (.iface 66 v) 50 68 true).run Tryz.prog w=.ok (.tuple #[.float .f64 0,.bool false]) w:=by kernel_rfl
@[go_sem] theorem ta_69_81 (v:Value)(w:World):(Instr.typeAssert (.iface 69 v) 50 81 true).run Tryz.prog w=.ok (.tuple #[.map none,.bool false]) w:=by kernel_rfl
@[go_sem] theorem ta_69_77 (v:Value)(w:World):(Instr.typeAssert (.iface 69 v) 50 77 true).run Tryz.prog w=.ok (.tuple #[.slice none 0 0,.bool false]) w:=by kernel_rfl
@[go_sem] theorem ta_69_73 (v:Value)(w:World):(Instr.typeAssert (.iface 69 v) 50 73 true).run Tryz.prog w=.ok (.tuple #[.agg #[.int .i64 0,.int .i64 0],.bool false]) w:=by kernel_rfl
@[go_sem] theorem ta_69_71 (v:Value)(w:World):(Instr.typeAssert (.iface 69 v) 50 71 true).run Tryz.prog w=.ok (.tuple #[.string ⟨#[]⟩,.bool false]) w:=by kernel_rfl
@[go_sem] theorem ta_70_81 (v:Value)(w:World):(Instr.typeAssert (.iface 70 v) 50 81 true).run Tryz.prog w=.ok (.tuple #[.map none,.bool false]) w:=by kernel_rfl
@[go_sem] theorem ta_70_77 (v:Value)(w:World):(Instr.typeAssert (.iface 70 v) 50 77 true).run Tryz.prog w=.ok (.tuple #[.slice none 0 0,.bool false]) w:=by kernel_rfl
@[go_sem] theorem ta_70_73 (v:Value)(w:World):(Instr.typeAssert (.iface 70 v) 50 73 true).run Tryz.prog w=.ok (.tuple #[.agg #[.int .i64 0,.int .i64 0],.bool false]) w:=by kernel_rfl
@[go_sem] theorem ta_70_71 (v:Value)(w:World):(Instr.typeAssert (.iface 70 v) 50 71 true).run Tryz.prog w=.ok (.tuple #[.string ⟨#[]⟩,.bool false]) w:=by kernel_rfl
theorem rd24_ret {w5:World}{B:Nat}{v0 v1 v2 v3 v4 v5 v6 u3 u4:Value}{tmps:Array Value}{R:Ending→World→Prop}(h2:tmps.getD 2 undef=.pointer (some ⟨B,0,none⟩))(h3:tmps.getD 3 undef=u3)(h4:tmps.getD 4 undef=u4)
  (hz:w5.heap[B]?=some (.cells #[v0,v1,v2,v3,v4,v5,v6] 30 (0,0)))(hR:R (.returned (.tuple #[.agg #[v0,v1,v2,v3,v4,v5,v6],u3,u4])) w5):bodyPost Tryz.prog Tryz.f24 R Exit.ret { tmps:=tmps,defers:=[] } w5:=by
 obtain⟨y0,y1,y2,y3,y4,y5,y6,yf⟩:=cells7 hz;simp only[Array.getD_eq_getD_getElem?]at h2 h3 h4;exact bodyPost_ret (v:=.tuple #[.agg #[v0,v1,v2,v3,v4,v5,v6],u3,u4]) (by simp[results,Tryz.results24,go_sem,h2,h3,h4,y0,y1,y2,y3,y4,y5,y6]) rfl hR
theorem rd10_ret {w5:World}{B:Nat}{v0 v1 v2 v3 v4 v5 v6 u3:Value}{tmps:Array Value}{R:Ending→World→Prop}(h2:tmps.getD 2 undef=.pointer (some ⟨B,0,none⟩))(h3:tmps.getD 3 undef=u3)
  (hz:w5.heap[B]?=some (.cells #[v0,v1,v2,v3,v4,v5,v6] 30 (0,0)))(hR:R (.returned (.tuple #[.agg #[v0,v1,v2,v3,v4,v5,v6],u3])) w5):bodyPost Tryz.prog Tryz.f10 R Exit.ret { tmps:=tmps,defers:=[] } w5:=by
 obtain⟨y0,y1,y2,y3,y4,y5,y6,yf⟩:=cells7 hz;simp only[Array.getD_eq_getD_getElem?]at h2 h3;exact bodyPost_ret (v:=.tuple #[.agg #[v0,v1,v2,v3,v4,v5,v6],u3]) (by simp[results,Tryz.results10,go_sem,h2,h3,y0,y1,y2,y3,y4,y5,y6]) rfl hR
def Rd24 (w w':World)(l r:By)(x:PV)(e:Ending):Prop:=∃(ks vs:Value) (S:Nat→Prop) (p:By),e=.returned (.tuple #[valOf x ks vs,.int .i64 p.length,.int .i64 0])∧l=p++r∧IsV S w' x ks vs∧(∀k,S k→w.heap.size≤k∧k<w'.heap.size)∧w.grownBy w' none
theorem read24_any (pf:By→Nat)(W0 w:World)(hI:Init W0)(hpf:PFC pf W0)(hE:Env W0 w)(l:By)(hl:l.length≤1000000000)(x:PV)(r:By)(o2:Bool)(hrd:rdV pf 50 l false=some (x,r,o2)) :
  Calls Tryz.prog 24 #[.string (bs l)] w fun e w'=>Rd24 w w' l r x e:=by
 have hV:=valC_all pf W0 hI hpf 50;obtain⟨HE,HV⟩:=xh2 hE hV;clear hE hV
 clear hI hpf;have hR0:RdAt ((w.alloc (.cells #[.int .i64 0,.int .i64 0,.int .i64 0,.float .f64 0,.string ⟨#[]⟩,.slice none 0 0,.slice none 0 0] 30 (0,0))).alloc (.cells #[.string (bs l),.int .i64 0,.int .i64 0,.int .i64 0,.bool false,.bool false] 57 (0,0))) (w.heap.size+1) (bs l) [] l 0 0 false false:=⟨by simp[bs],(alloc2 w w.heap.size rfl _ _).2⟩;have hz0:=(alloc2 w w.heap.size rfl (.cells #[.int .i64 0,.int .i64 0,.int .i64 0,.float .f64 0,.string ⟨#[]⟩,.slice none 0 0,.slice none 0 0] 30 (0,0)) (.cells #[.string (bs l),.int .i64 0,.int .i64 0,.int .i64 0,.bool false,.bool false] 57 (0,0))).1;have hg0:=gr_alloc (gr_alloc (xgr w none) (.cells #[.int .i64 0,.int .i64 0,.int .i64 0,.float .f64 0,.string ⟨#[]⟩,.slice none 0 0,.slice none 0 0] 30 (0,0))) (.cells #[.string (bs l),.int .i64 0,.int .i64 0,.int .i64 0,.bool false,.bool false] 57 (0,0));obtain⟨HR0,HZ0,HG0⟩:=xh3 hR0 hz0 hg0;clear hR0 hz0 hg0
 go_enter Tryz.func24,Tryz.ntmps24;go_wp2_with fail
 refine(HV.out _ (w.heap.size+1) (bs l) [] l false false (by exact HE.out.grown0 HG0.out) (by have:=HE.out.1;omega) (by rw[bs_size];exact hl) (by exact HR0.out) (by omega)).mono ?_;intro e w1 hP;rw[hrd]at hP;clear hrd;obtain⟨ks2,vs2,S2,rfl,hV3,hS3,⟨p3,hR3⟩,hg3⟩:=hP;obtain⟨⟨ko2,kn2,kc2,hks⟩,⟨vo2,vn2,vc2,hvs⟩⟩:=IsV.slices hV3;subst hks;subst hvs;unfold valOf;obtain⟨HV3,HS3⟩:=xh2 hV3 hS3;clear hV3 hS3
 have hz3:=keep hg3 HZ0.out (by simp);have hG3:=gr_down hg3 HG0.out (by omega);obtain⟨c0,c1,c2,c3,c4,c5,cf⟩:=hR3.cells;obtain⟨z0,z1,z2,z3,z4,z5,z6,zf⟩:=zb_cells hz3;have hlt3:w.heap.size+1<w1.heap.size:=hR3.lt;have hlt2:w.heap.size<w1.heap.size:=by omega
 obtain⟨HR3,HZ3,HG3,Hg3⟩:=xh4 hR3 hz3 hG3 hg3;clear hR3 hz3 hG3 hg3
 clear HR0 HZ0 HG0;go_wp2_with fail
 go_region
 go_wp2_with fail
 refine rd24_ret (B:=w.heap.size) (u3:=.int .i64 (p3.length)) (u4:=.int .i64 (0)) (v0:=.int .i64 (pvKind x)) (v1:=.int .i64 (pvInt x)) (v2:=.int .i64 (pvGen x)) (v3:=.float .f64 (pvReal x)) (v4:=.string ⟨(pvText x).toArray⟩) (v5:=.slice ko2 kn2 kc2) (v6:=.slice vo2 vn2 vc2) (w5:=((set7 w1 w.heap.size _ _ _ _ _ _ _).alloc _).drew) ?_ ?_ ?_ ?_ ?_
 ·rfl
 ·rfl
 ·rfl
 ·exact set7_ad HZ3.out hlt2 _ _ _ _ _ _ _ _
 refine⟨.slice ko2 kn2 kc2,.slice vo2 vn2 vc2,S2,p3,rfl,?_,IsV.keep (fun k hk=>⟨hk,?_⟩) _ _ _ HV3.out,fun k hk=>?_,set7_adg HG3.out (Nat.le_refl _) _ _ _ _ _ _ _ _⟩
 ·have:=HR3.out.1;rw[bs_list]at this;exact this
 ·have:=HS3.out k hk
  simp at this;exact set7_ado (by omega) (by omega) _ _ _ _ _ _ _ _
 ·have:=HS3.out k hk
  simp at this;exact⟨by omega,by rw[set7_ads];omega⟩
def RdA (w w':World)(x:PV)(e:Ending):Prop:=∃(ks vs:Value) (S:Nat→Prop),e=.returned (.tuple #[valOf x ks vs,.int .i64 0])∧IsV S w' x ks vs∧(∀k,S k→w.heap.size≤k∧k<w'.heap.size)∧w.grownBy w' none
theorem readall_any (pf:By→Nat)(W0 w:World)(hI:Init W0)(hpf:PFC pf W0)(hE:Env W0 w)(l:By)(hl:l.length≤1000000000)(x:PV)(r:By)(o2:Bool)(hrd:rdV pf 50 l false=some (x,r,o2))(hr:(passM false r false).1=[]) :
  Calls Tryz.prog 10 #[.string (bs l)] w fun e w'=>RdA w w' x e:=by
 have h24:=fun (w2:World) (hg:w.grownBy w2 none)=>read24_any pf W0 w2 hI hpf (hE.grown0 hg) l hl x r o2 hrd;have H24:=xhd h24;have hw0:=hE.1;have hzl:(bs l).size=l.length:=bs_size l;have Hr:=xhd hr;clear h24 hI hpf hE hrd hr;go_enter Tryz.func10,Tryz.ntmps10;go_wp2_with fail
 have hz0:(w.alloc Z30).heap[w.heap.size]?=some Z30:=heap_alloc_new _ _;have hg0:w.grownBy (w.alloc Z30) none:=gr_alloc (xgr _ _) _;have hs0:(w.alloc Z30).heap.size=w.heap.size+1:=by simp
 unfold Z30 at hz0 hg0 hs0;refine(H24.out _ hg0).mono ?_;generalize w.alloc _=w0 at *;rintro e w1⟨ks,vs,S,p,rfl,hlp,hIV,hS,hg1⟩;obtain⟨⟨ko2,kn2,kc2,rfl⟩,⟨vo2,vn2,vc2,rfl⟩⟩:=IsV.slices hIV;unfold valOf;obtain⟨o4,ho4⟩:∃o4:Obj,o4=.cells #[.int .i64 (pvKind x),.int .i64 (pvInt x),.int .i64 (pvGen x),.float .f64 (pvReal x),.string ⟨(pvText x).toArray⟩,.slice ko2 kn2 kc2,.slice vo2 vn2 vc2] 30 (0,0):=⟨_,rfl⟩;obtain⟨b1,b2⟩:=alloc2 w1 w1.heap.size rfl o4 (.cells #[.string (bs l),.int .i64 p.length,.int .i64 0,.int .i64 0,.bool false,.bool false] 57 (0,0));obtain⟨Wb,hWb⟩:∃Wb,Wb=(w1.alloc o4).alloc (.cells #[.string (bs l),.int .i64 p.length,.int .i64 0,.int .i64 0,.bool false,.bool false] 57 (0,0)):=⟨_,rfl⟩;have hgb:w1.grownBy Wb none:=by rw[hWb];exact gr_alloc (gr_alloc (xgr _ _) _) _
 have hsb:Wb.heap.size=w1.heap.size+2:=by rw[hWb];simp
 rw[←hWb]at b1 b2;have hz1:=(hg1.block _ (by omega) (by simp)).trans hz0;have hzb:=(hgb.block _ (by have:=hg1.size;omega) (by simp)).trans hz1;have hpass:=pass_any Wb (w1.heap.size+1) (bs l) p r 0 0 false false ⟨by rw[bs_list];exact hlp,b2⟩ (by rw[bs_size];omega);rw[Hr.out]at hpass;obtain⟨Hpass,Hzb,Hb1,Hgb,Hg1,HIV,HS⟩:=xh7 hpass hzb b1 hgb hg1 hIV hS;have Hs1:=xhd (And.intro hg1.size (And.intro hsb hs0));have Hg0:=xhd hg0;clear hpass hzb b1 b2 hgb hg1 hIV hS hz0 hz1 hg0 hsb hs0 hlp;rw[ho4]at hWb Hb1;clear ho4
 go_upto_region 5 with (fail)
 rw[←hWb];clear hWb;go_wp2_with fail
 refine Hpass.out.mono ?_;rintro e w2⟨rfl,⟨p',hR2⟩,hg2⟩;obtain⟨c0,c1,c2,c3,c4,c5,cf⟩:=hR2.cells;have hpl:p'.length=(bs l).size:=by have:=hR2.1;rw[bs_list]at this;rw[bs_size,this];simp
 have hnm:¬((p'.length:Int)<(bs l).size):=by omega
 have s2:=hg2.size;have hss:=Hs1.out;have hz2:=(hg2.block _ (by omega) (by simp;omega)).trans Hzb.out;have hb2:=(hg2.block _ (by omega) (by simp)).trans Hb1.out;have hG2:w.grownBy w2 none:=gr_noneThen (Hg0.out.trans (Hg1.out.trans Hgb.out)) hg2 (fun k hk=>by injection hk with hk;omega)
 have hI2:IsV S w2 x (.slice ko2 kn2 kc2) (.slice vo2 vn2 vc2):=IsV.keep (S':=S) (fun k hk=>⟨hk,by
  have:=HS.out k hk
  exact(hg2.block k (by omega) (by simp;omega)).trans (Hgb.out.block k this.2 (by simp))⟩) _ _ _ HIV.out
 obtain⟨z0,z1,z2,z3,z4,z5,z6,zf⟩:=cells7 hz2;obtain⟨y0,y1,y2,y3,y4,y5,y6,yf⟩:=cells7 hb2;have hlt2:w.heap.size<w2.heap.size:=by omega
 have hlt3:w1.heap.size<w2.heap.size:=by omega
 obtain⟨Hz2,HG2,HI2⟩:=xh3 hz2 hG2 hI2;have hS2:∀k,S k→w.heap.size+1≤k∧k<w2.heap.size:=fun k hk=>by have:=HS.out k hk;omega
 have HS2:=xhd hS2;clear Hpass hR2 hg2 hz2 hb2 hG2 hI2 hS2 hpl hss s2 Hzb Hb1 HIV HS Hs1 Hg0 Hg1 Hgb;go_wp2_with fail
 refine rd10_ret (B:=w.heap.size) (u3:=.int .i64 (0)) (v0:=.int .i64 (pvKind x)) (v1:=.int .i64 (pvInt x)) (v2:=.int .i64 (pvGen x)) (v3:=.float .f64 (pvReal x)) (v4:=.string ⟨(pvText x).toArray⟩) (v5:=.slice ko2 kn2 kc2) (v6:=.slice vo2 vn2 vc2) (w5:=set7 w2 w.heap.size _ _ _ _ _ _ _) rfl rfl (set7_at Hz2.out _ _ _ _ _ _ _) ?_;refine⟨.slice ko2 kn2 kc2,.slice vo2 vn2 vc2,S,rfl,IsV.keep (S':=S) (fun k hk=>⟨hk,set7_other _ _ _ _ _ _ _ _ _ _ (by have:=HS2.out k hk;omega)⟩) _ _ _ HI2.out,fun k hk=>?_,set7_gr HG2.out (Nat.le_refl _) _ _ _ _ _ _ _⟩;have:=HS2.out k hk;rw[set7_size];omega
end Go.Proofs.YtfkecmlmnhbmoaaGreatDoor
