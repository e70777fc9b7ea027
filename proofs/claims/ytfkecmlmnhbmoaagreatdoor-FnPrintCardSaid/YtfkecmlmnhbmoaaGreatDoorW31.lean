/- Parts F20 C4 J5. -/
import Derived.Test.YtfkecmlmnhbmoaaGreatDoorW29
set_option linter.unusedVariables false
set_option linter.unusedSimpArgs false
set_option maxRecDepth 100000
set_option maxHeartbeats 40000000
namespace Go.Proofs.YtfkecmlmnhbmoaaGreatDoor
open Go Go.RowKit
theorem zc190:Tryz.zeroCells190=(decCells (List.replicate 800 0) 0 0 false false).toArray:=by kernel_rfl
theorem zeroDec (w:World):DecAt (w.alloc (.cells Tryz.zeroCells190 190 (0,0))) w.heap.size (List.replicate 800 0) 0 0 false false :=
 ⟨List.length_replicate,by rw[zc190];exact heap_alloc_new _ _⟩
theorem a64_long (W0:World)(hF:FInit3 W0)(l:By)(hok:numOk l)(s:ByteArray)(hs:s.data.toList=l)(hs2:s.size≤1000)(hM:¬(rfF (numStrip l) 0 0 0 false).1=0)(htr:(rfF (numStrip l) 0 0 0 false).2.2.2=true):∃x,nnF x∧A64 W0 l s x:=by
 have hopt:=hF.opt;have hfb:=run_frombits;obtain⟨M,nd,dp,tr,hR,hM19,hdp1,hdp2,hnd60,hndp,hM0,htr20⟩:=rf_facts hok;obtain⟨ng,hng⟩:∃ng,headIs l (· == 45)=ng:=⟨_,rfl⟩;have hrf:=fun w=>rf_any w s l hs hok hs2;have hsp:=fun w=>special_any w s l hs hok hs2;unfold rfRet at hrf;rw[hR]at hM;simp only at hM;simp only[hR,hng,if_neg hM]at hrf;obtain⟨p,hp⟩:∃p,p=dp-(min nd 19:Nat):=⟨_,rfl⟩;rw[←hp]at hrf;have hp1:-100≤p:=by omega
 have hp2:p≤20:=by omega
 have hMb:((M:Int)==0)=false:=by simp;omega
 have hM9:M<18446744073709551616:=by omega
 have y30:∀(a b c:Value),([a,b,c]:List Value)[0]?=some a:=fun _ _ _=>rfl;have y31:∀(a b c:Value),([a,b,c]:List Value)[1]?=some b:=fun _ _ _=>rfl;have y32:∀(a b c:Value),([a,b,c]:List Value)[2]?=some c:=fun _ _ _=>rfl;have y70:∀(a b c d e f g:Value),([a,b,c,d,e,f,g]:List Value)[0]?=some a:=fun _ _ _ _ _ _ _=>rfl;have y71:∀(a b c d e f g:Value),([a,b,c,d,e,f,g]:List Value)[1]?=some b:=fun _ _ _ _ _ _ _=>rfl;have y72:∀(a b c d e f g:Value),([a,b,c,d,e,f,g]:List Value)[2]?=some c:=fun _ _ _ _ _ _ _=>rfl;have y73:∀(a b c d e f g:Value),([a,b,c,d,e,f,g]:List Value)[3]?=some d:=fun _ _ _ _ _ _ _=>rfl;have y74:∀(a b c d e f g:Value),([a,b,c,d,e,f,g]:List Value)[4]?=some e:=fun _ _ _ _ _ _ _=>rfl;have y75:∀(a b c d e f g:Value),([a,b,c,d,e,f,g]:List Value)[5]?=some f:=fun _ _ _ _ _ _ _=>rfl;have y76:∀(a b c d e f g:Value),([a,b,c,d,e,f,g]:List Value)[6]?=some g:=fun _ _ _ _ _ _ _=>rfl;have sh0:∀w:World,(Op.shift BinOp.shl IntKind.u64 0 IntKind.u64 63).run Tryz.prog w=.ok (.int .u64 0) w:=fun _=>by kernel_rfl
 obtain⟨S63,hS63⟩:∃S63:Int,S63=9223372036854775808:=⟨_,rfl⟩;obtain⟨o1,ho1⟩:∃o1:Int,o1=1:=⟨_,rfl⟩;have sh1:∀w:World,(Op.shift BinOp.shl IntKind.u64 o1 IntKind.u64 63).run Tryz.prog w=.ok (.int .u64 S63) w:=fun _=>by rw[hS63,ho1];kernel_rfl
 have sh2:IntKind.u64.wrap (o1*9223372036854775808)=S63:=by rw[ho1,hS63];decide
 have Ho1:=xhd ho1;clear ho1
 have hS0:0≤S63:=by omega
 have hS1:S63≤18446744073709551615:=by omega
 have HS63:=xhd hS63;clear hS63
 rw[hR]at htr;simp only at htr;subst htr;have hnd20:=htr20 rfl;obtain⟨N,dpN',hst⟩:∃N dpN',stF (numStrip l) 0 0=(N,dpN'):=⟨_,_,rfl⟩;have hset:=fun (w:World) (b:Nat) (A:By) (hD:DecAt w b A 0 0 false false)=>set_any w b A s l hD hs hok hs2;rw[hst,hng]at hset
 have hrs:numD N=nd∧dpN'=dp:=by
  obtain⟨pre,c,l1,d,a,_,_,hst1,hsc,_⟩:=numOk_parts hok;have h:=rf_st (c::l1) 0 0 0 0 false 0 0 0 _ hsc numD_zero;rw[←hst1,hR,hst]at h;exact⟨h.1.symm,h.2.symm⟩
 obtain⟨hnN,rfl⟩:=hrs;have hN0:N≠0:=by intro e;rw[e,numD_zero]at hnN;omega
 have hfbr:=fun (w:World) (hE:Env W0 w) (b:Nat) (hb:W0.heap.size≤b) (hD:DecN w b N dpN' ng false)=>fb_any W0 w hF.toFInit hE b N dpN' ng hb hD hN0 (by omega) (by omega) (by omega) (by omega);obtain⟨xs,hxs⟩:∃x:Nat,x=(fbRes N dpN' ng).toNat:=⟨_,rfl⟩;obtain⟨fr,hfr⟩:∃fr,fr=fbRes N dpN' ng:=⟨_,rfl⟩;have Hfn:=xhd (show nnF xs by rw[hxs];exact fbRes_nn ng hN0 (by omega) (by omega));rw[←hfr]at hxs hfbr;have hfb9:∀w:World,(callFunc 152 #[.int .u64 fr]).run Tryz.prog w=.ok (.value (.float .f64 xs)) w:=fun w=>by rw[hxs];exact hfb fr w
 obtain⟨M1,hM1e⟩:∃M1,M1=M+1:=⟨_,rfl⟩;have hM9':M1<18446744073709551616:=by omega
 have hM1:(M:Int)+1=(M1:Int):=by omega
 obtain⟨HM1e,Hrf,Hsp,Hng,HR,Hs,Hp,HM⟩:=xh8 hM1e hrf hsp hng hR hs hp hM;clear hM1e hrf hsp hng hR hs hp hM
 obtain⟨Hset,Hfbr,Hst,HnN,Hxs,Hfr⟩:=xh6 hset hfbr hst hnN hxs hfr;clear hset hfbr hst hnN hxs hfr
 clear hok hfb hM0 htr20 hM19 hndp hnd20
 cases ng
 ·obtain⟨xp,hpn,hpf⟩:=pf64_ex W0 hF.toFInit2 M hM9 p hp1 hp2 0 (.inl rfl)
  obtain⟨xq,hqn,hqf⟩:=pf64_ex W0 hF.toFInit2 M1 hM9' p hp1 hp2 0 (.inl rfl);obtain⟨Hpf,Hqf⟩:=xh2 hpf hqf;clear hpf hqf
  rcases xbt (FloatKind.f64.format.order xp xq==some Ordering.eq) with heq|heq
  ·refine⟨xp,hpn,fun w hE=>?_⟩
   clear hpn hqn;have e0:=hE.cell hopt;go_enter Tryz.func107,Tryz.ntmps107;go_wp2_with fail
   refine(Hsp.out _).mono ?_;rintro e w1⟨rfl,hw⟩;subst w1;go_wp2_with fail
   refine(Hrf.out _).mono ?_;rintro e w1⟨rfl,hw⟩;subst w1;go_wp2_with fail
   refine(b2_f _).mono ?_;rintro e w1⟨rfl,hw⟩;subst w1;go_wp2_with fail
   refine(Hpf.out _ hE).mono ?_;rintro e w1⟨rfl,hg⟩;have HE1:=xhd (hE.grown0 hg);have Hg:=xhd hg;clear hg
   go_wp2_with fail
   refine(Hqf.out _ HE1.out).mono ?_;rintro e w2⟨rfl,hg2⟩;have HE2:=xhd (HE1.out.grown0 hg2);have Hg2:=xhd hg2;clear hg2
   go_wp2_with fail
   go_ret3;exact⟨rfl,Hg.out.trans Hg2.out⟩
  ·refine⟨xs,Hfn.out,fun w hE=>?_⟩
   clear hpn hqn;have e0:=hE.cell hopt;go_enter Tryz.func107,Tryz.ntmps107;go_wp2_with fail
   refine(Hsp.out _).mono ?_;rintro e w1⟨rfl,hw⟩;subst w1;go_wp2_with fail
   refine(Hrf.out _).mono ?_;rintro e w1⟨rfl,hw⟩;subst w1;go_wp2_with fail
   refine(b2_f _).mono ?_;rintro e w1⟨rfl,hw⟩;subst w1;go_wp2_with fail
   refine(Hpf.out _ hE).mono ?_;rintro e w1⟨rfl,hg⟩;have HE1:=xhd (hE.grown0 hg);have Hg:=xhd hg;clear hg
   go_wp2_with fail
   refine(Hqf.out _ HE1.out).mono ?_;rintro e w2⟨rfl,hg2⟩;have HE2:=xhd (HE1.out.grown0 hg2);have Hg2:=xhd hg2;clear hg2
   go_wp2_with fail
   refine(Hset.out _ w2.heap.size _ (by exact zeroDec w2)).mono ?_;rintro e w3⟨rfl,hD3,hg3⟩;have HG3:=xhd (show w.grownBy w3 none from gr_noneThen (Hg.out.trans Hg2.out) ((gr_alloc (xgr w2 (some w2.heap.size)) _).trans hg3) (fun j hj=>by injection hj with hj;have:=(Hg.out.trans Hg2.out).size;omega));have HE3:=xhd (hE.grown0 HG3.out);obtain⟨HD3,Hg3⟩:=xh2 hD3 hg3;clear hD3 hg3
   go_wp2_with fail
   refine(Hfbr.out _ HE3.out w2.heap.size HE2.out.1 (by exact HD3.out)).mono ?_;rintro e w4⟨rfl,hg4⟩;have Hg4:=xhd hg4;clear hg4
   go_wp2_with fail
   go_ret3;exact⟨rfl,gr_noneThen HG3.out Hg4.out (fun j hj=>by injection hj with hj;have:=(Hg.out.trans Hg2.out).size;omega)⟩
 ·obtain⟨xp,hpn,hpf⟩:=pf64_ex W0 hF.toFInit2 M hM9 p hp1 hp2 S63 (.inr HS63.out)
  obtain⟨xq,hqn,hqf⟩:=pf64_ex W0 hF.toFInit2 M1 hM9' p hp1 hp2 S63 (.inr HS63.out);obtain⟨Hpf,Hqf⟩:=xh2 hpf hqf;clear hpf hqf
  rcases xbt (FloatKind.f64.format.order xp xq==some Ordering.eq) with heq|heq
  ·refine⟨xp,hpn,fun w hE=>?_⟩
   clear hpn hqn;have e0:=hE.cell hopt;go_enter Tryz.func107,Tryz.ntmps107;go_wp2_with fail
   refine(Hsp.out _).mono ?_;rintro e w1⟨rfl,hw⟩;subst w1;go_wp2_with fail
   refine(Hrf.out _).mono ?_;rintro e w1⟨rfl,hw⟩;subst w1;go_wp2_with fail
   refine(b2_tv Ho1.out _).mono ?_;rintro e w1⟨rfl,hw⟩;subst w1;go_wp2_with fail
   refine(Hpf.out _ hE).mono ?_;rintro e w1⟨rfl,hg⟩;have HE1:=xhd (hE.grown0 hg);have Hg:=xhd hg;clear hg
   go_wp2_with fail
   refine(Hqf.out _ HE1.out).mono ?_;rintro e w2⟨rfl,hg2⟩;have HE2:=xhd (HE1.out.grown0 hg2);have Hg2:=xhd hg2;clear hg2
   go_wp2_with fail
   go_ret3;exact⟨rfl,Hg.out.trans Hg2.out⟩
  ·refine⟨xs,Hfn.out,fun w hE=>?_⟩
   clear hpn hqn;have e0:=hE.cell hopt;go_enter Tryz.func107,Tryz.ntmps107;go_wp2_with fail
   refine(Hsp.out _).mono ?_;rintro e w1⟨rfl,hw⟩;subst w1;go_wp2_with fail
   refine(Hrf.out _).mono ?_;rintro e w1⟨rfl,hw⟩;subst w1;go_wp2_with fail
   refine(b2_tv Ho1.out _).mono ?_;rintro e w1⟨rfl,hw⟩;subst w1;go_wp2_with fail
   refine(Hpf.out _ hE).mono ?_;rintro e w1⟨rfl,hg⟩;have HE1:=xhd (hE.grown0 hg);have Hg:=xhd hg;clear hg
   go_wp2_with fail
   refine(Hqf.out _ HE1.out).mono ?_;rintro e w2⟨rfl,hg2⟩;have HE2:=xhd (HE1.out.grown0 hg2);have Hg2:=xhd hg2;clear hg2
   go_wp2_with fail
   refine(Hset.out _ w2.heap.size _ (by exact zeroDec w2)).mono ?_;rintro e w3⟨rfl,hD3,hg3⟩;have HG3:=xhd (show w.grownBy w3 none from gr_noneThen (Hg.out.trans Hg2.out) ((gr_alloc (xgr w2 (some w2.heap.size)) _).trans hg3) (fun j hj=>by injection hj with hj;have:=(Hg.out.trans Hg2.out).size;omega));have HE3:=xhd (hE.grown0 HG3.out);obtain⟨HD3,Hg3⟩:=xh2 hD3 hg3;clear hD3 hg3
   go_wp2_with fail
   refine(Hfbr.out _ HE3.out w2.heap.size HE2.out.1 (by exact HD3.out)).mono ?_;rintro e w4⟨rfl,hg4⟩;have Hg4:=xhd hg4;clear hg4
   go_wp2_with fail
   go_ret3;exact⟨rfl,gr_noneThen HG3.out Hg4.out (fun j hj=>by injection hj with hj;have:=(Hg.out.trans Hg2.out).size;omega)⟩
theorem num_plain {pf:By→Nat}{l:By}{o:Bool}{x:PV}{r:By}{o2:Bool}(h:rdNum pf l o=some (x,r,o2))(S:Nat→Prop)(w:World):IsV S w x nilS nilS:=by
 simp only[rdNum,refF]at h
 repeat' split at h
 all_goals first
  | (simp at h;done)
  | (simp only[Option.some.injEq,Prod.mk.injEq]at h;obtain⟨rfl,_⟩:=h;exact IsV.plain (by trivial))
theorem val_arr (pf:By→Nat)(W0:World)(n:Nat)(hn:n≤49)(hV:ValC pf W0 n)(w:World)(b:Nat)(s:ByteArray)(p l:By)(deep:Int)(hd0:0≤deep)(hd1:deep≤49)(odd ends:Bool)(hR:RdAt w b s p l 0 deep odd ends)(hs:s.size≤1000000000)(oa:Bool)(hE:Env W0 w)(hW0:W0.heap.size≤b)(hdn:deep+1=50-n)(c:UInt8)(la:By)(hP:passM false l odd=(c::la,oa))(h40:((c.toNat:Int)==40)=false)(hd:is2 (c::la) 60=false)(h60:((c.toNat:Int)==60)=false)(h47:((c.toNat:Int)==47)=false)(h91:((c.toNat:Int)==91)=true) :
  Calls Tryz.prog 28 #[.pointer (some ⟨b,0,none⟩)] w fun e w'=>VPost w w' b s deep ends e ((rdArr (rdV pf n) la.length la oa []).map fun r=>(.arr r.1,r.2)):=by
 obtain⟨HE,HV,Hdn⟩:=xh3 hE hV hdn;clear hE hV hdn
 have hbB:=hR.lt;have HR:=xhd hR;clear hR
 have hal:=alloc2 w w.heap.size rfl (.cells #[.pointer (some ⟨b,0,none⟩)] 55 (0,0)) (.cells #[.int .i64 0,.int .i64 0,.int .i64 0,.float .f64 0,.string ⟨#[]⟩,.slice none 0 0,.slice none 0 0] 30 (0,0));have hmf:∀(fn:Fn) (first cap:Array Value) (w:World),(Instr.makeFunc fn first cap).run Tryz.prog w=.ok (.func fn first cap) w:=fun _ _ _ _=>rfl
 go_enter_defers Tryz.func28,Tryz.ntmps28
 go_wp2_with fail
 refine(pass_any _ b s p l 0 deep odd ends (by exact(HR.out.alloc _).alloc _) (by omega)).mono ?_;rintro e w1⟨rfl,⟨p1,hR1⟩,hg1⟩;have hb1:=keep hg1 hal.1 (by simp;omega);have hb2:=keep hg1 hal.2 (by simp;omega);have hlt1:w.heap.size+1<w1.heap.size:=(xgl hb2);have HG1:=xhd (gr_same (gr_alloc (gr_alloc (xgr w (some b)) _) _) hg1);obtain⟨HB1,HB2⟩:=xh2 hb1 hb2;have d0:w1.cell? ⟨w.heap.size,0,none⟩=some (.pointer (some ⟨b,0,none⟩)):=by simp[World.cell?,hb1]
 rw[hP]at hR1;simp only at hR1;obtain⟨c0,c1,c2,c3,c4,c5,cf⟩:=hR1.cells;have hsz1:=hR1.size;have HR1:=xhd hR1;have hnb1:¬w.heap.size=b:=by omega
 have hnb2:¬w.heap.size+1=b:=by omega
 have hp1:p1.length≤s.size:=by omega
 have Hsz1:=xhd hsz1;clear hg1 hal hb1 hb2 hR1 hsz1;go_wp2_with fail
 have hlt:p1.length<s.size:=by have:=Hsz1.out;simp at this;omega
 obtain⟨hk,hget⟩:=HR1.out.head;have hle:¬s.size≤p1.length:=by omega
 have HR2:=xhd (HR1.out.set3 (deep+1));have HG2:=xhd (gr_set HG1.out 3 (.int .i64 (deep+1)));have hlt2:w.heap.size+1<(w1.setCell ⟨b,3,none⟩ (.int .i64 (deep+1))).heap.size:=by simp;omega
 have HB3:=xhd ((Below.heap_setCell w1 ⟨b,3,none⟩ (.int .i64 (deep+1)) w.heap.size (by simp;omega)).trans HB1.out);have HB4:=xhd ((Below.heap_setCell w1 ⟨b,3,none⟩ (.int .i64 (deep+1)) (w.heap.size+1) (by simp;omega)).trans HB2.out);obtain⟨w2,hw2⟩:∃w2,w2=w1.setCell ⟨b,3,none⟩ (.int .i64 (deep+1)):=⟨_,rfl⟩;rw[←hw2]at HR2 HG2 HB3 HB4 hlt2⊢;clear hw2 HR1 HG1 HB1 HB2 c0 c1 c2 c3 c4 c5 cf d0 hlt1;obtain⟨c0,c1,c2,c3,c4,c5,cf⟩:=HR2.out.cells;have d0:w2.cell? ⟨w.heap.size,0,none⟩=some (.pointer (some ⟨b,0,none⟩)):=by simp[World.cell?,HB3.out]
 go_quiet ((go_at_call 52;with_reducible first|exact qad _|exact qbd _));go_wp2_with fail
 go_quiet ((go_at_call 52;with_reducible first|exact qad _|exact qbd _));go_wp2_with fail
 refine(is_any _ b s p1 (c::la) 0 (deep+1) oa ends (by exact HR2.out.drewN _) (by omega) ⟨#[60,60]⟩ (by decide)).mono ?_;rintro e w2'⟨rfl,n2,hw2'⟩;have hpre:(⟨#[60,60]⟩:ByteArray).data.toList.isPrefixOf (c::la)=is2 (c::la) 60:=pre2 60 (c::la);rw[hpre,hd];clear hpre;subst w2';go_wp2_with fail
 go_quiet ((go_at_call 52;with_reducible first|exact qad _|exact qbd _));go_wp2_with fail
 go_quiet ((go_at_call 52;with_reducible first|exact qad _|exact qbd _));go_wp2_with fail
 go_quiet ((go_at_call 52;with_reducible first|exact qad _|exact qbd _));go_wp2_with fail
 refine(arr_any pf W0 _ (by exact HE.out.grown (gr_drewN HG2.out _) (fun k hk=>by injection hk with hk;omega)) b s p1 la c n (by omega) HV.out oa ends (by rw[←Hdn.out];exact HR2.out.drewN _) hs hW0).mono ?_;intro e w3 hP3;obtain⟨R,hRe⟩:∃R,R=(rdArr (rdV pf n) la.length la oa []).map fun r=>(PV.arr r.1,r.2):=⟨_,rfl⟩;rw[←hRe,←Hdn.out]at hP3;have HRe:=xhd hRe;clear hRe
 cases R with
 | none =>
  obtain⟨vv,rfl,⟨xk,xn,xg,xx,xt,ko2,kn2,kc2,vo2,vn2,vc2,rfl⟩,⟨p3,l3,o3,bad3,en3,hbad3,hR3⟩,hg3⟩:=hP3;have hz3:=keep hg3 HB4.out (by simp;omega);have hx3:=keep hg3 HB3.out (by simp;omega);have HG3:=xhd (gr_same HG2.out (show w2.grownBy w3 (some b) from⟨hg3.os,hg3.tape,hg3.output,hg3.size,hg3.block⟩));have hlt3:w.heap.size+1<w3.heap.size:=(xgl hz3);obtain⟨z0,z1,z2,z3,z4,z5,z6,zf⟩:=zb_cells hz3;obtain⟨HZ3,HX3,HR3⟩:=xh3 hz3 hx3 hR3;clear hR3
  clear hz3 hx3 hg3 c0 c1 c2 c3 c4 c5 cf d0 HG2 HR2 HB3 HB4;go_wp2_with fail
  refine val_door HX3.out HZ3.out HR3.out HG3.out hbB hd0 (by omega) rfl ?_;intro w' g1 g2 g3 g4;rw[←HRe.out];exact⟨_,rfl,⟨_,_,_,_,_,_,_,_,_,_,_,rfl⟩,⟨p3,l3,o3,bad3,en3,hbad3,g1⟩,g2⟩
 | some q =>
  obtain⟨x,r,o2⟩:=q;obtain⟨ks2,vs2,S2,rfl,hV3,hS3,⟨p3,hR3⟩,hg3⟩:=hP3;obtain⟨⟨ko2,kn2,kc2,hks⟩,⟨vo2,vn2,vc2,hvs⟩⟩:=IsV.slices hV3;subst hks;subst hvs;unfold valOf;obtain⟨HV3,HS3⟩:=xh2 hV3 hS3;clear hV3 hS3
  have hz3:=keep hg3 HB4.out (by simp;omega);have hx3:=keep hg3 HB3.out (by simp;omega);have HG3:=xhd (gr_same HG2.out (show w2.grownBy w3 (some b) from⟨hg3.os,hg3.tape,hg3.output,hg3.size,hg3.block⟩));have hlt3:w.heap.size+1<w3.heap.size:=(xgl hz3);obtain⟨z0,z1,z2,z3,z4,z5,z6,zf⟩:=zb_cells hz3;obtain⟨HZ3,HX3,HR3⟩:=xh3 hz3 hx3 hR3;clear hR3
  clear hz3 hx3 hg3 c0 c1 c2 c3 c4 c5 cf d0 HG2 HR2 HB3 HB4;go_wp2_with fail
  refine val_door HX3.out HZ3.out HR3.out HG3.out hbB hd0 (by omega) rfl ?_;intro w' g1 g2 g3 g4;rw[←HRe.out];refine⟨_,_,S2,rfl,IsV.keep (fun k hk=>⟨hk,g3 k ?_ ?_⟩) _ _ _ HV3.out,fun k hk=>?_,⟨p3,g1⟩,g2⟩
  ·have:=(HS3.out k hk).1
   have hh:(w2.drewN 0).heap.size=w2.heap.size:=rfl;simp at this;omega
  ·have:=(HS3.out k hk).1
   simp at this;omega
  ·have:=HS3.out k hk
   simp at this;omega
theorem val_delim (w:World)(b:Nat)(s:ByteArray)(p l:By)(deep:Int)(hd0:0≤deep)(hd1:deep≤49)(odd ends:Bool)(hR:RdAt w b s p l 0 deep odd ends)(hs:s.size≤1000000000)(oa:Bool)(c:UInt8)(la:By)(hP:passM false l odd=(c::la,oa))(h40:((c.toNat:Int)==40)=false)(hd:is2 (c::la) 60=false)(h60:((c.toNat:Int)==60)=false)(h47:((c.toNat:Int)==47)=false)(h91:((c.toNat:Int)==91)=false)(hdl:isDelim (c.toNat:Int)=true) :
  Calls Tryz.prog 28 #[.pointer (some ⟨b,0,none⟩)] w fun e w'=>VPost w w' b s deep ends e none:=by
 have hbB:=hR.lt;have HR:=xhd hR;clear hR
 have hal:=alloc2 w w.heap.size rfl (.cells #[.pointer (some ⟨b,0,none⟩)] 55 (0,0)) (.cells #[.int .i64 0,.int .i64 0,.int .i64 0,.float .f64 0,.string ⟨#[]⟩,.slice none 0 0,.slice none 0 0] 30 (0,0));have hmf:∀(fn:Fn) (first cap:Array Value) (w:World),(Instr.makeFunc fn first cap).run Tryz.prog w=.ok (.func fn first cap) w:=fun _ _ _ _=>rfl
 go_enter_defers Tryz.func28,Tryz.ntmps28
 go_wp2_with fail
 refine(pass_any _ b s p l 0 deep odd ends (by exact(HR.out.alloc _).alloc _) (by omega)).mono ?_;rintro e w1⟨rfl,⟨p1,hR1⟩,hg1⟩;have hb1:=keep hg1 hal.1 (by simp;omega);have hb2:=keep hg1 hal.2 (by simp;omega);have hlt1:w.heap.size+1<w1.heap.size:=(xgl hb2);have HG1:=xhd (gr_same (gr_alloc (gr_alloc (xgr w (some b)) _) _) hg1);obtain⟨HB1,HB2⟩:=xh2 hb1 hb2;have d0:w1.cell? ⟨w.heap.size,0,none⟩=some (.pointer (some ⟨b,0,none⟩)):=by simp[World.cell?,hb1]
 rw[hP]at hR1;simp only at hR1;obtain⟨c0,c1,c2,c3,c4,c5,cf⟩:=hR1.cells;have hsz1:=hR1.size;have HR1:=xhd hR1;have hnb1:¬w.heap.size=b:=by omega
 have hnb2:¬w.heap.size+1=b:=by omega
 have hp1:p1.length≤s.size:=by omega
 have Hsz1:=xhd hsz1;clear hg1 hal hb1 hb2 hR1 hsz1;go_wp2_with fail
 have hlt:p1.length<s.size:=by have:=Hsz1.out;simp at this;omega
 obtain⟨hk,hget⟩:=HR1.out.head;have hle:¬s.size≤p1.length:=by omega
 have HR2:=xhd (HR1.out.set3 (deep+1));have HG2:=xhd (gr_set HG1.out 3 (.int .i64 (deep+1)));have hlt2:w.heap.size+1<(w1.setCell ⟨b,3,none⟩ (.int .i64 (deep+1))).heap.size:=by simp;omega
 have HB3:=xhd ((Below.heap_setCell w1 ⟨b,3,none⟩ (.int .i64 (deep+1)) w.heap.size (by simp;omega)).trans HB1.out);have HB4:=xhd ((Below.heap_setCell w1 ⟨b,3,none⟩ (.int .i64 (deep+1)) (w.heap.size+1) (by simp;omega)).trans HB2.out);obtain⟨w2,hw2⟩:∃w2,w2=w1.setCell ⟨b,3,none⟩ (.int .i64 (deep+1)):=⟨_,rfl⟩;rw[←hw2]at HR2 HG2 HB3 HB4 hlt2⊢;clear hw2 HR1 HG1 HB1 HB2 c0 c1 c2 c3 c4 c5 cf d0 hlt1;obtain⟨c0,c1,c2,c3,c4,c5,cf⟩:=HR2.out.cells;have d0:w2.cell? ⟨w.heap.size,0,none⟩=some (.pointer (some ⟨b,0,none⟩)):=by simp[World.cell?,HB3.out]
 go_quiet ((go_at_call 52;with_reducible first|exact qad _|exact qbd _));go_wp2_with fail
 go_quiet ((go_at_call 52;with_reducible first|exact qad _|exact qbd _));go_wp2_with fail
 refine(is_any _ b s p1 (c::la) 0 (deep+1) oa ends (by exact HR2.out.drewN _) (by omega) ⟨#[60,60]⟩ (by decide)).mono ?_;rintro e w2'⟨rfl,n2,hw2'⟩;have hpre:(⟨#[60,60]⟩:ByteArray).data.toList.isPrefixOf (c::la)=is2 (c::la) 60:=pre2 60 (c::la);rw[hpre,hd];clear hpre;subst w2';go_wp2_with fail
 go_quiet ((go_at_call 52;with_reducible first|exact qad _|exact qbd _));go_wp2_with fail
 go_quiet ((go_at_call 52;with_reducible first|exact qad _|exact qbd _));go_wp2_with fail
 go_quiet ((go_at_call 52;with_reducible first|exact qad _|exact qbd _));go_wp2_with fail
 go_quiet ((go_at_call 52;with_reducible first|exact qad _|exact qbd _));go_wp2_with fail
 refine(fail_any _ b s p1 (c::la) 0 (deep+1) oa ends (by exact HR2.out.drewN _) 1).mono ?_;rintro e w3⟨rfl,hR3,hg3⟩;unfold zeroV;have hz3:=keep hg3 HB4.out (by simp;omega);have hx3:=keep hg3 HB3.out (by simp;omega);have HG3:=xhd (gr_same HG2.out (show w2.grownBy w3 (some b) from⟨hg3.os,hg3.tape,hg3.output,hg3.size,hg3.block⟩));have hlt3:w.heap.size+1<w3.heap.size:=(xgl hz3);obtain⟨z0,z1,z2,z3,z4,z5,z6,zf⟩:=zb_cells hz3;obtain⟨HZ3,HX3,HR3⟩:=xh3 hz3 hx3 hR3;clear hR3
 clear hz3 hx3 hg3 c0 c1 c2 c3 c4 c5 cf d0 HG2 HR2 HB3 HB4;go_wp2_with fail
 refine val_door HX3.out HZ3.out HR3.out HG3.out hbB hd0 (by omega) rfl ?_;intro w' g1 g2 g3 g4;exact⟨_,rfl,⟨_,_,_,_,_,_,_,_,_,_,_,rfl⟩,⟨p1,_,oa,failB 0 1,ends,failB_ne _ _ (by decide),g1⟩,g2⟩
theorem val_num (pf:By→Nat)(W0:World)(hI:Init W0)(hpf:PFC pf W0)(w:World)(b:Nat)(s:ByteArray)(p l:By)(deep:Int)(hd0:0≤deep)(hd1:deep≤49)(odd ends:Bool)(hR:RdAt w b s p l 0 deep odd ends)(hs:s.size≤1000000000)(oa:Bool)(hE:Env W0 w)(hW0:W0.heap.size≤b)(c:UInt8)(la:By)(hP:passM false l odd=(c::la,oa))(h40:((c.toNat:Int)==40)=false)(hd:is2 (c::la) 60=false)(h60:((c.toNat:Int)==60)=false)(h47:((c.toNat:Int)==47)=false)(h91:((c.toNat:Int)==91)=false)(hdl:isDelim (c.toNat:Int)=false) :
  Calls Tryz.prog 28 #[.pointer (some ⟨b,0,none⟩)] w fun e w'=>VPost w w' b s deep ends e (rdNum pf (c::la) oa):=by
 obtain⟨HE,HI,Hpf⟩:=xh3 hE hI hpf;clear hE hI hpf
 have hbB:=hR.lt;have HR:=xhd hR;clear hR
 have hal:=alloc2 w w.heap.size rfl (.cells #[.pointer (some ⟨b,0,none⟩)] 55 (0,0)) (.cells #[.int .i64 0,.int .i64 0,.int .i64 0,.float .f64 0,.string ⟨#[]⟩,.slice none 0 0,.slice none 0 0] 30 (0,0));have hmf:∀(fn:Fn) (first cap:Array Value) (w:World),(Instr.makeFunc fn first cap).run Tryz.prog w=.ok (.func fn first cap) w:=fun _ _ _ _=>rfl
 go_enter_defers Tryz.func28,Tryz.ntmps28
 go_wp2_with fail
 refine(pass_any _ b s p l 0 deep odd ends (by exact(HR.out.alloc _).alloc _) (by omega)).mono ?_;rintro e w1⟨rfl,⟨p1,hR1⟩,hg1⟩;have hb1:=keep hg1 hal.1 (by simp;omega);have hb2:=keep hg1 hal.2 (by simp;omega);have hlt1:w.heap.size+1<w1.heap.size:=(xgl hb2);have HG1:=xhd (gr_same (gr_alloc (gr_alloc (xgr w (some b)) _) _) hg1);obtain⟨HB1,HB2⟩:=xh2 hb1 hb2;have d0:w1.cell? ⟨w.heap.size,0,none⟩=some (.pointer (some ⟨b,0,none⟩)):=by simp[World.cell?,hb1]
 rw[hP]at hR1;simp only at hR1;obtain⟨c0,c1,c2,c3,c4,c5,cf⟩:=hR1.cells;have hsz1:=hR1.size;have HR1:=xhd hR1;have hnb1:¬w.heap.size=b:=by omega
 have hnb2:¬w.heap.size+1=b:=by omega
 have hp1:p1.length≤s.size:=by omega
 have Hsz1:=xhd hsz1;clear hg1 hal hb1 hb2 hR1 hsz1;go_wp2_with fail
 have hlt:p1.length<s.size:=by have:=Hsz1.out;simp at this;omega
 obtain⟨hk,hget⟩:=HR1.out.head;have hle:¬s.size≤p1.length:=by omega
 have HR2:=xhd (HR1.out.set3 (deep+1));have HG2:=xhd (gr_set HG1.out 3 (.int .i64 (deep+1)));have hlt2:w.heap.size+1<(w1.setCell ⟨b,3,none⟩ (.int .i64 (deep+1))).heap.size:=by simp;omega
 have HB3:=xhd ((Below.heap_setCell w1 ⟨b,3,none⟩ (.int .i64 (deep+1)) w.heap.size (by simp;omega)).trans HB1.out);have HB4:=xhd ((Below.heap_setCell w1 ⟨b,3,none⟩ (.int .i64 (deep+1)) (w.heap.size+1) (by simp;omega)).trans HB2.out);obtain⟨w2,hw2⟩:∃w2,w2=w1.setCell ⟨b,3,none⟩ (.int .i64 (deep+1)):=⟨_,rfl⟩;rw[←hw2]at HR2 HG2 HB3 HB4 hlt2⊢;clear hw2 HR1 HG1 HB1 HB2 c0 c1 c2 c3 c4 c5 cf d0 hlt1;obtain⟨c0,c1,c2,c3,c4,c5,cf⟩:=HR2.out.cells;have d0:w2.cell? ⟨w.heap.size,0,none⟩=some (.pointer (some ⟨b,0,none⟩)):=by simp[World.cell?,HB3.out]
 go_quiet ((go_at_call 52;with_reducible first|exact qad _|exact qbd _));go_wp2_with fail
 go_quiet ((go_at_call 52;with_reducible first|exact qad _|exact qbd _));go_wp2_with fail
 refine(is_any _ b s p1 (c::la) 0 (deep+1) oa ends (by exact HR2.out.drewN _) (by omega) ⟨#[60,60]⟩ (by decide)).mono ?_;rintro e w2'⟨rfl,n2,hw2'⟩;have hpre:(⟨#[60,60]⟩:ByteArray).data.toList.isPrefixOf (c::la)=is2 (c::la) 60:=pre2 60 (c::la);rw[hpre,hd];clear hpre;subst w2';go_wp2_with fail
 go_quiet ((go_at_call 52;with_reducible first|exact qad _|exact qbd _));go_wp2_with fail
 go_quiet ((go_at_call 52;with_reducible first|exact qad _|exact qbd _));go_wp2_with fail
 go_quiet ((go_at_call 52;with_reducible first|exact qad _|exact qbd _));go_wp2_with fail
 go_quiet ((go_at_call 52;with_reducible first|exact qad _|exact qbd _));go_wp2_with fail
 refine(num53_any pf W0 _ HI.out Hpf.out (by exact HE.out.grown (gr_drewN HG2.out _) (fun k hk=>by injection hk with hk;omega)) b s p1 (c::la) (deep+1) oa ends (by exact HR2.out.drewN _) (by omega) hW0).mono ?_;intro e w3 hP3;obtain⟨R,hRe⟩:∃R,R=rdNum pf (c::la) oa:=⟨_,rfl⟩;rw[←hRe]at hP3;have HRe:=xhd hRe;clear hRe
 cases R with
 | none =>
  obtain⟨rfl,⟨p3,l3,o3,bad3,hbad3,hR3⟩,hg3⟩:=hP3;unfold zeroV;have hz3:=keep hg3 HB4.out (by simp;omega);have hx3:=keep hg3 HB3.out (by simp;omega);have HG3:=xhd (gr_same HG2.out (show w2.grownBy w3 (some b) from⟨hg3.os,hg3.tape,hg3.output,hg3.size,hg3.block⟩));have hlt3:w.heap.size+1<w3.heap.size:=(xgl hz3);obtain⟨z0,z1,z2,z3,z4,z5,z6,zf⟩:=zb_cells hz3;obtain⟨HZ3,HX3,HR3⟩:=xh3 hz3 hx3 hR3;clear hR3
  clear hz3 hx3 hg3 c0 c1 c2 c3 c4 c5 cf d0 HG2 HR2 HB3 HB4;go_wp2_with fail
  refine val_door HX3.out HZ3.out HR3.out HG3.out hbB hd0 (by omega) rfl ?_;intro w' g1 g2 g3 g4;rw[←HRe.out];exact⟨_,rfl,⟨_,_,_,_,_,_,_,_,_,_,_,rfl⟩,⟨p3,l3,o3,bad3,ends,hbad3,g1⟩,g2⟩
 | some q =>
  obtain⟨x,r,o2⟩:=q;obtain⟨rfl,⟨p3,hR3⟩,hg3⟩:=hP3;unfold valOf nilS;have hz3:=keep hg3 HB4.out (by simp;omega);have hx3:=keep hg3 HB3.out (by simp;omega);have HG3:=xhd (gr_same HG2.out (show w2.grownBy w3 (some b) from⟨hg3.os,hg3.tape,hg3.output,hg3.size,hg3.block⟩));have hlt3:w.heap.size+1<w3.heap.size:=(xgl hz3);obtain⟨z0,z1,z2,z3,z4,z5,z6,zf⟩:=zb_cells hz3;obtain⟨HZ3,HX3,HR3⟩:=xh3 hz3 hx3 hR3;clear hR3
  clear hz3 hx3 hg3 c0 c1 c2 c3 c4 c5 cf d0 HG2 HR2 HB3 HB4;go_wp2_with fail
  refine val_door HX3.out HZ3.out HR3.out HG3.out hbB hd0 (by omega) rfl ?_;intro w' g1 g2 g3 g4;rw[←HRe.out];exact⟨nilS,nilS,fun _=>False,rfl,num_plain HRe.out.symm _ _,fun k hk=>hk.elim,⟨p3,g1⟩,g2⟩
theorem rup_any (w:World)(b N:Nat)(dp:Int)(neg:Bool)(r:Nat)(hN:N≠0)(hr1:1≤r)(hlt:r<numD N)(h60:numD N≤100)(hru:ruB N r false=true)(hd1:-1000≤dp)(hd2:dp≤1000)(hD:DecN w b N dp neg false) :
  Calls Tryz.prog 175 #[.pointer (some ⟨b,0,none⟩),.int .i64 (r:Nat)] w fun e w'=>e=.returned (.tuple #[])∧DecN w' b (rdN N r) (rdP N r dp) neg false∧w.grownBy w' (some b):=by
 obtain⟨h800,A,hA,hds,hdv⟩:=hD;have hAl:=hA.1;have HF:=xhd (And.intro hds (And.intro hdv (And.intro hru hAl)));have HN:=xhd hN;obtain⟨c0,c1,c2,c3,cf⟩:=hA.cells;have HA:=xhd hA;obtain⟨nd,hnd⟩:∃nd,nd=numD N:=⟨_,rfl⟩;rw[←hnd]at c0 hlt h60 h800;have Hnd:=xhd hnd;clear hA hds hdv hru hN hnd hAl;have hn0:¬((r:Int)<0):=by omega
 have hn1:¬((nd:Int)≤(r:Int)):=by omega
 go_enter Tryz.func175,Tryz.ntmps175;go_wp2_with fail
 go_loopg [4] r (fun g t4 wr=>∃(i:Nat) (z:Int),t4=.int .i64 z∧z=(i:Int)-1∧g=i∧Nines N r i∧i≤r∧wr=w)
 case atStart=>exact⟨r,_,rfl,rfl,rfl,Nines.start N r,Nat.le_refl _,rfl⟩
 case round =>
  obtain⟨i,z,rfl,hz,hg,hni,hir,rfl⟩:=hrel;obtain⟨Hg,Hni⟩:=xh2 hg hni;clear hg hni
  cases i with
  | zero =>
   have hz0:¬(0≤z):=by omega
   clear hz;obtain⟨c,hc,cd⟩:=HA.out.digE (i:=0) (by omega);clear hc;go_wp2_with fail
   go_end0;refine⟨rfl,Nines.all Hni.out HN.out hr1 HF.out.2.2.2 ?_ (by rw[←Hnd.out];exact hlt) HF.out.2.2.1,by repeat (first|exact xgr _ _|apply gr_set)⟩;have:=((HA.out.setDig (i:=0) (by omega) 49).setNd 1).setDp (dp+1);exact this
  | succ n =>
   have hz0:0≤z:=by omega
   have hz1:z<800:=by omega
   have hzt:z.toNat=n:=by omega
   have Hz:=xhd (show z=(n:Int) by omega);clear hz;obtain⟨c,hc,cd⟩:=HA.out.digE (i:=n) (by omega)
   by_cases h9:c.toNat<57
   ·obtain⟨c',hc'⟩:∃c':UInt8,c'.toNat=c.toNat+1:=⟨UInt8.ofNat (c.toNat+1),by rw[UInt8.toNat_ofNat'];omega⟩
    have hw1:IntKind.u8.wrap ((c.toNat:Int)+1)=(c'.toNat:Int):=by rw[IntKind.wrap_u8];omega
    have hw2:(c.toNat:Int)+1=(c'.toNat:Int):=by omega
    have Hc:=xhd (And.intro hc hc');clear hc hc';go_wp2_with fail
    go_region
    go_wp2_with fail
    refine bodyPost_ret (v:=.tuple #[]) (by simp[results,Tryz.results175]) rfl ?_;have hc:=Hc.out;refine⟨rfl,Nines.up Hni.out HN.out (by rw[←Hnd.out];exact h800) HF.out.2.2.2 HF.out.1 HF.out.2.1 (by rw[←Hnd.out];omega) (by rw[hc.1];exact h9) (by rw[hc.1];exact hc.2) ?_ (by rw[←Hnd.out];exact hlt) HF.out.2.2.1,by repeat (first|exact xgr _ _|apply gr_set|apply gr_drewN|apply gr_drew)⟩;rw[show z+1=((n+1:Nat):Int) by have:=Hz.out;omega];exact(HA.out.setDig (i:=n) (by omega) c').setNd (n+1)
   ·have Hc:=xhd hc
    clear hc;go_wp2_with fail
    go_roundg n
    case measure=>rw[Hg.out];omega
    case rel=>exact⟨n,_,rfl,by have:=Hz.out;omega,rfl,Nines.step Hni.out (by have:=HF.out.2.2.2;rw[←Hnd.out];omega) HF.out.1 HF.out.2.1 (by rw[←Hnd.out];omega) (by rw[Hc.out];exact h9),by omega,rfl⟩
theorem cut_pos {A:By}{N r:Nat}(hN:N≠0)(hr1:1≤r)(hA:A.length=800)(hl:numD N≤800)(hd:isDs (A.take (numD N)))(hv:dv (A.take (numD N))=N)(hlt:r<numD N):trimN A r≠0:=by
 obtain⟨hle,hpr⟩:=pdN_lead hN (r:=r) hr1 (by omega);have hpi:=pd_eq (A:=A) (N:=N) (r:=r) (by omega) hd hv;unfold pd at hpi;rw[if_pos (by omega)]at hpi;have hp0:pdN N r≠0:=by have:=Nat.pow_pos (n:=r-1) (show 0<10 by decide);omega
 have hds:isDs (A.take r):=by
  intro x hx;refine hd x ?_;have:A.take r=(A.take (numD N)).take r:=by rw[List.take_take,Nat.min_eq_left (by omega)]
  rw[this]at hx;exact List.mem_of_mem_take hx
 obtain⟨t1,t2⟩:=trimN_dv r A (by omega) hds (by rw[hpi];exact hp0) (by rw[hpi];exact hpr);rw[t1,hpi];have:=numD_pos1 (strip_pos hp0);omega
theorem rdown_any (w:World)(b N:Nat)(dp:Int)(neg:Bool)(r:Nat)(hN:N≠0)(hr1:1≤r)(hlt:r<numD N)(h60:numD N≤100)(hru:ruB N r false=false)(hD:DecN w b N dp neg false) :
  Calls Tryz.prog 176 #[.pointer (some ⟨b,0,none⟩),.int .i64 (r:Nat)] w fun e w'=>e=.returned (.tuple #[])∧DecN w' b (rdN N r) (rdP N r dp) neg false∧w.grownBy w' (some b):=by
 obtain⟨h800,A,hA,hds,hdv⟩:=hD;have hp0:=cut_pos hN hr1 hA.1 h800 hds hdv hlt;have hfin:=fun (w':World) (hD':DecAt w' b A (trimN A r) dp neg false)=>cut_dec hN hr1 hA.1 h800 hds hdv hlt hru hD';have htr:=trim_any (w.setCell ⟨b,800,none⟩ (.int .i64 r)) b A r dp neg false (hA.setNd r) (by omega);have hdp:dpN (trimN A r) dp=dp:=by unfold dpN;rw[if_neg hp0]
 rw[hdp]at htr;obtain⟨Hfin,Htr⟩:=xh2 hfin htr;obtain⟨c0,c1,c2,c3,cf⟩:=hA.cells;obtain⟨nd,hnd⟩:∃nd,nd=numD N:=⟨_,rfl⟩;rw[←hnd]at c0 hlt;have hn0:¬((r:Int)<0):=by omega
 have hn1:¬((nd:Int)≤(r:Int)):=by omega
 clear hA hds hdv hru hN hnd hfin htr hp0 hdp h800 h60;go_enter Tryz.func176,Tryz.ntmps176;go_wp2_with fail
 refine Htr.out.mono ?_;rintro e w1⟨rfl,hD1,hg1⟩;obtain⟨HD1,Hg1⟩:=xh2 hD1 hg1;clear hD1 hg1;go_wp2_with fail
 go_end0;exact⟨rfl,Hfin.out _ HD1.out,(gr_set (xgr _ _) _ _).trans Hg1.out⟩
theorem round_any (w:World)(b N:Nat)(dp:Int)(neg:Bool)(r:Nat)(hN:N≠0)(hr1:1≤r)(hr2:r≤1000)(h60:numD N≤100)(hd1:-1000≤dp)(hd2:dp≤1000)(hD:DecN w b N dp neg false) :
  Calls Tryz.prog 124 #[.pointer (some ⟨b,0,none⟩),.int .i64 (r:Nat)] w fun e w'=>e=.returned (.tuple #[])∧DecN w' b (rdN N r) (rdP N r dp) neg false∧w.grownBy w' (some b):=by
 obtain⟨c0,c1,c2,c3,cf⟩:=hD.cells;obtain⟨nd,hnd⟩:∃nd,nd=numD N:=⟨_,rfl⟩;rw[←hnd]at c0;obtain⟨Hnd,HD,HN⟩:=xh3 hnd hD hN;have h6:=h60;rw[←hnd]at h6;have H60:=xhd h60;clear hD hnd hN h60;have hn0:¬((r:Int)<0):=by omega
 by_cases hlt:r<nd
 ·have hn1:¬((nd:Int)≤(r:Int)):=by omega
  have hlt2:=hlt;rw[Hnd.out]at hlt2;have Hlt:=xhd hlt2;clear hlt2
  cases hru:ruB N r false
  ·have Hru:=xhd hru
   clear hru;go_enter Tryz.func124,Tryz.ntmps124;go_wp2_with fail
   refine(sru_any _ b N dp neg false HD.out r (by omega)).mono ?_;rintro e w1⟨rfl,m,rfl⟩;rw[Hru.out];go_wp2_with fail
   refine(rdown_any _ b N dp neg r HN.out hr1 Hlt.out H60.out Hru.out (by exact HD.out.drewN m)).mono ?_;rintro e w1⟨rfl,hD1,hg1⟩;obtain⟨HD1,Hg1⟩:=xh2 hD1 hg1;clear hD1 hg1;go_wp2_with fail
   go_end0;exact⟨rfl,HD1.out,(gr_drewN (xgr _ _) m).trans Hg1.out⟩
  ·have Hru:=xhd hru
   clear hru;go_enter Tryz.func124,Tryz.ntmps124;go_wp2_with fail
   refine(sru_any _ b N dp neg false HD.out r (by omega)).mono ?_;rintro e w1⟨rfl,m,rfl⟩;rw[Hru.out];go_wp2_with fail
   refine(rup_any _ b N dp neg r HN.out hr1 Hlt.out H60.out Hru.out hd1 hd2 (by exact HD.out.drewN m)).mono ?_;rintro e w1⟨rfl,hD1,hg1⟩;obtain⟨HD1,Hg1⟩:=xh2 hD1 hg1;clear hD1 hg1;go_wp2_with fail
   go_end0;exact⟨rfl,HD1.out,(gr_drewN (xgr _ _) m).trans Hg1.out⟩
 ·have hn1:(nd:Int)≤(r:Int):=by omega
  have hlt2:=hlt;rw[Hnd.out]at hlt2;have e1:rdN N r=N:=by unfold rdN;rw[if_neg hlt2]
  have e2:rdP N r dp=dp:=by unfold rdP;rw[if_neg hlt2]
  rw[e1,e2];clear e1 e2 hlt2 hlt;go_enter Tryz.func124,Tryz.ntmps124;go_wp2_with fail
  exact bodyPost_ret (v:=.tuple #[]) (by simp[results,Tryz.results124]) rfl ⟨rfl,HD.out,xgr _ _⟩
def LowAt (w:World)(g M n:Nat):Prop:=∃cs:Array Value,w.heap[g]?=some (.cells cs 185 (0,0))∧cs.size=24∧∀j,j<n→cs[j]?=some (.int .u8 (((48+M/10^j%10:Nat)):Int))
theorem LowAt.keep {w w':World}{g M n:Nat}(h:LowAt w g M n)(e:w'.heap[g]?=w.heap[g]?):LowAt w' g M n:=by
 obtain⟨cs,h1,h2,h3⟩:=h;exact⟨cs,e.trans h1,h2,h3⟩
theorem LowAt.push {w:World}{g M n:Nat}(h:LowAt w g M n)(hn:n<24){v:Value}(hv:v=.int .u8 (((48+M/10^n%10:Nat)):Int)):LowAt (w.setCell ⟨g,n,none⟩ v) g M (n+1):=by
 obtain⟨cs,h1,h2,h3⟩:=h;refine⟨cs.setIfInBounds n v,decSet _ _ _ _ _ _ _ h1,by simpa using h2,fun j hj=>?_⟩;rw[Array.getElem?_setIfInBounds]
 by_cases e:n=j
 ·subst e;rw[if_pos rfl,if_pos (by omega),hv]
 ·rw[if_neg e];exact h3 j (by omega)
theorem LowAt.cell {w:World}{g M n:Nat}(h:LowAt w g M n){j:Nat}(hj:j<n):w.cell? ⟨g,j,none⟩=some (.int .u8 (((48+M/10^j%10:Nat)):Int)):=by
 obtain⟨cs,h1,h2,h3⟩:=h;simp[World.cell?,h1,h3 j hj]
theorem LowAt.cellAny {w:World}{g M n:Nat}(h:LowAt w g M n){j:Nat}(hj:j<24):(∃v,w.cell? ⟨g,j,none⟩=some v)∧w.frozen? ⟨g,j,none⟩=false:=by
 obtain⟨cs,h1,h2,h3⟩:=h;refine⟨⟨cs[j],?_⟩,?_⟩
 ·simp[World.cell?,h1,Array.getElem?_eq_getElem (show j<cs.size by omega)]
 ·simp[World.frozen?,h1]
end Go.Proofs.YtfkecmlmnhbmoaaGreatDoor
