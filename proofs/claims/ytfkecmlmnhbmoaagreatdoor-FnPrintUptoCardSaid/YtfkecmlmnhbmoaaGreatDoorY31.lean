/- The texts F20 C3 G27 G28 G29 G30 P18 P19 of the workbench, laid together. -/
import Derived.Test.YtfkecmlmnhbmoaaGreatDoorProg
import Derived.WalkKit
import Derived.WalkLawsBesides
import Derived.WalkSpells
import Derived.BigQuiet
import Derived.BigRegion
import Derived.Deep.QuietTactic
import Derived.Deep.RegionHeld3
import Derived.Deep.LoopGhost
import Derived.StillTailTactics
import Derived.Lib.Hide
import Derived.Laws.EntriesVeiled
import Derived.Test.YtfkecmlmnhbmoaaGreatDoorY25
import Derived.Test.YtfkecmlmnhbmoaaGreatDoorY29
set_option linter.unusedVariables false
set_option linter.unusedSimpArgs false
namespace Go.Proofs.YtfkecmlmnhbmoaaGreatDoor
open Go Go.RowKit
theorem zc190:Tryz.zeroCells190=(decCells (List.replicate 800 0) 0 0 false false).toArray:=by kernel_rfl
theorem zeroDec (w:World):DecAt (w.alloc (.cells Tryz.zeroCells190 190 (0,0))) w.heap.size (List.replicate 800 0) 0 0 false false :=
 ⟨List.length_replicate,by rw [zc190];exact heap_alloc_new _ _⟩
set_option maxRecDepth 100000 in
set_option maxHeartbeats 40000000 in
theorem a64_long (W0:World) (hF:FInit3 W0) (l:By) (hok:numOk l) (s:ByteArray) (hs:s.data.toList=l) (hs2:s.size≤1000) (hM:¬(rfF (numStrip l) 0 0 0 false).1=0) (htr:(rfF (numStrip l) 0 0 0 false).2.2.2=true):∃ x,nnF x∧A64 W0 l s x:=by
 have hopt:=hF.opt
 have hfb:=run_frombits
 obtain ⟨M,nd,dp,tr,hR,hM19,hdp1,hdp2,hnd60,hndp,hM0,htr20⟩:=rf_facts hok
 obtain ⟨ng,hng⟩:∃ ng,headIs l (· == 45)=ng:=⟨_,rfl⟩
 have hrf:=fun w=>rf_any w s l hs hok hs2
 have hsp:=fun w=>special_any w s l hs hok hs2
 unfold rfRet at hrf
 rw [hR] at hM
 simp only at hM
 simp only [hR,hng,if_neg hM] at hrf
 obtain ⟨p,hp⟩:∃ p,p=dp - (min nd 19:Nat):=⟨_,rfl⟩
 rw [←hp] at hrf
 have hp1:-100≤p:=by omega
 have hp2:p≤20:=by omega
 have hMb:((M:Int) == 0)=false:=by simp;omega
 have hM9:M < 18446744073709551616:=by omega
 have y30:∀ (a b c:Value),([a,b,c]:List Value)[0]?=some a:=fun _ _ _=>rfl
 have y31:∀ (a b c:Value),([a,b,c]:List Value)[1]?=some b:=fun _ _ _=>rfl
 have y32:∀ (a b c:Value),([a,b,c]:List Value)[2]?=some c:=fun _ _ _=>rfl
 have y70:∀ (a b c d e f g:Value),([a,b,c,d,e,f,g]:List Value)[0]?=some a:=fun _ _ _ _ _ _ _=>rfl
 have y71:∀ (a b c d e f g:Value),([a,b,c,d,e,f,g]:List Value)[1]?=some b:=fun _ _ _ _ _ _ _=>rfl
 have y72:∀ (a b c d e f g:Value),([a,b,c,d,e,f,g]:List Value)[2]?=some c:=fun _ _ _ _ _ _ _=>rfl
 have y73:∀ (a b c d e f g:Value),([a,b,c,d,e,f,g]:List Value)[3]?=some d:=fun _ _ _ _ _ _ _=>rfl
 have y74:∀ (a b c d e f g:Value),([a,b,c,d,e,f,g]:List Value)[4]?=some e:=fun _ _ _ _ _ _ _=>rfl
 have y75:∀ (a b c d e f g:Value),([a,b,c,d,e,f,g]:List Value)[5]?=some f:=fun _ _ _ _ _ _ _=>rfl
 have y76:∀ (a b c d e f g:Value),([a,b,c,d,e,f,g]:List Value)[6]?=some g:=fun _ _ _ _ _ _ _=>rfl
 have sh0:∀ w:World,(Op.shift BinOp.shl IntKind.u64 0 IntKind.u64 63).run Tryz.prog w=.ok (.int .u64 0) w:=fun _=>by kernel_rfl
 obtain ⟨S63,hS63⟩:∃ S63:Int,S63=9223372036854775808:=⟨_,rfl⟩
 obtain ⟨o1,ho1⟩:∃ o1:Int,o1=1:=⟨_,rfl⟩
 have sh1:∀ w:World,(Op.shift BinOp.shl IntKind.u64 o1 IntKind.u64 63).run Tryz.prog w=.ok (.int .u64 S63) w:=fun _=>by rw [hS63,ho1];kernel_rfl
 have sh2:IntKind.u64.wrap (o1 * 9223372036854775808)=S63:=by rw [ho1,hS63];decide
 have Ho1:=Lib.hid ho1;clear ho1
 have hS0:0≤S63:=by omega
 have hS1:S63≤18446744073709551615:=by omega
 have HS63:=Lib.hid hS63;clear hS63
 rw [hR] at htr
 simp only at htr
 subst htr
 have hnd20:=htr20 rfl
 obtain ⟨N,dpN',hst⟩:∃ N dpN',stF (numStrip l) 0 0=(N,dpN'):=⟨_,_,rfl⟩
 have hset:=fun (w:World) (b:Nat) (A:By) (hD:DecAt w b A 0 0 false false)=>set_any w b A s l hD hs hok hs2
 rw [hst,hng] at hset
 have hrs:numD N=nd∧dpN'=dp:=by
  obtain ⟨pre,c,l1,d,a,_,_,hst1,hsc,_⟩:=numOk_parts hok
  have h:=rf_st (c::l1) 0 0 0 0 false 0 0 0 _ hsc numD_zero
  rw [←hst1,hR,hst] at h
  exact ⟨h.1.symm,h.2.symm⟩
 obtain ⟨hnN,rfl⟩:=hrs
 have hN0:N≠0:=by intro e;rw [e,numD_zero] at hnN;omega
 have hfbr:=fun (w:World) (hE:Env W0 w) (b:Nat) (hb:W0.heap.size≤b) (hD:DecN w b N dpN' ng false)=>fb_any W0 w hF.toFInit hE b N dpN' ng hb hD hN0 (by omega) (by omega) (by omega) (by omega)
 obtain ⟨xs,hxs⟩:∃ x:Nat,x=(fbRes N dpN' ng).toNat:=⟨_,rfl⟩
 obtain ⟨fr,hfr⟩:∃ fr,fr=fbRes N dpN' ng:=⟨_,rfl⟩
 have Hfn:=Lib.hid (show nnF xs by rw [hxs];exact fbRes_nn ng hN0 (by omega) (by omega))
 rw [←hfr] at hxs hfbr
 have hfb9:∀ w:World,(callFunc 152 #[.int .u64 fr]).run Tryz.prog w=.ok (.value (.float .f64 xs)) w:=fun w=>by rw [hxs];exact hfb fr w
 obtain ⟨M1,hM1e⟩:∃ M1,M1=M + 1:=⟨_,rfl⟩
 have hM9':M1 < 18446744073709551616:=by omega
 have hM1:(M:Int) + 1=(M1:Int):=by omega
 have HM1e:=Lib.hid hM1e;clear hM1e
 have Hrf:=Lib.hid hrf;clear hrf
 have Hsp:=Lib.hid hsp;clear hsp
 have Hng:=Lib.hid hng;clear hng
 have HR:=Lib.hid hR;clear hR
 have Hs:=Lib.hid hs;clear hs
 have Hp:=Lib.hid hp;clear hp
 have HM:=Lib.hid hM;clear hM
 have Hset:=Lib.hid hset;clear hset
 have Hfbr:=Lib.hid hfbr;clear hfbr
 have Hst:=Lib.hid hst;clear hst
 have HnN:=Lib.hid hnN;clear hnN
 have Hxs:=Lib.hid hxs;clear hxs
 have Hfr:=Lib.hid hfr;clear hfr
 clear hok hfb hM0 htr20 hM19 hndp hnd20
 cases ng
 ·obtain ⟨xp,hpn,hpf⟩:=pf64_ex W0 hF.toFInit2 M hM9 p hp1 hp2 0 (.inl rfl)
  obtain ⟨xq,hqn,hqf⟩:=pf64_ex W0 hF.toFInit2 M1 hM9' p hp1 hp2 0 (.inl rfl)
  have Hpf:=Lib.hid hpf;clear hpf
  have Hqf:=Lib.hid hqf;clear hqf
  rcases Bool.eq_false_or_eq_true (FloatKind.f64.format.order xp xq == some Ordering.eq) with heq | heq
  ·refine ⟨xp,hpn,fun w hE=>?_⟩
   clear hpn hqn
   have e0:=hE.cell hopt
   go_enter Tryz.func107,Tryz.ntmps107
   go_wp2_with fail
   refine (Hsp.out _).mono ?_
   rintro e w1 ⟨rfl,hw⟩
   subst w1
   go_wp2_with fail
   refine (Hrf.out _).mono ?_
   rintro e w1 ⟨rfl,hw⟩
   subst w1
   go_wp2_with fail
   refine (b2_f _).mono ?_
   rintro e w1 ⟨rfl,hw⟩
   subst w1
   go_wp2_with fail
   refine (Hpf.out _ hE).mono ?_
   rintro e w1 ⟨rfl,hg⟩
   have HE1:=Lib.hid (hE.grown0 hg)
   have Hg:=Lib.hid hg;clear hg
   go_wp2_with fail
   refine (Hqf.out _ HE1.out).mono ?_
   rintro e w2 ⟨rfl,hg2⟩
   have HE2:=Lib.hid (HE1.out.grown0 hg2)
   have Hg2:=Lib.hid hg2;clear hg2
   go_wp2_with fail
   go_ret3
   exact ⟨rfl,Hg.out.trans Hg2.out⟩
  ·refine ⟨xs,Hfn.out,fun w hE=>?_⟩
   clear hpn hqn
   have e0:=hE.cell hopt
   go_enter Tryz.func107,Tryz.ntmps107
   go_wp2_with fail
   refine (Hsp.out _).mono ?_
   rintro e w1 ⟨rfl,hw⟩
   subst w1
   go_wp2_with fail
   refine (Hrf.out _).mono ?_
   rintro e w1 ⟨rfl,hw⟩
   subst w1
   go_wp2_with fail
   refine (b2_f _).mono ?_
   rintro e w1 ⟨rfl,hw⟩
   subst w1
   go_wp2_with fail
   refine (Hpf.out _ hE).mono ?_
   rintro e w1 ⟨rfl,hg⟩
   have HE1:=Lib.hid (hE.grown0 hg)
   have Hg:=Lib.hid hg;clear hg
   go_wp2_with fail
   refine (Hqf.out _ HE1.out).mono ?_
   rintro e w2 ⟨rfl,hg2⟩
   have HE2:=Lib.hid (HE1.out.grown0 hg2)
   have Hg2:=Lib.hid hg2;clear hg2
   go_wp2_with fail
   refine (Hset.out _ w2.heap.size _ (by exact zeroDec w2)).mono ?_
   rintro e w3 ⟨rfl,hD3,hg3⟩
   have HG3:=Lib.hid (show w.grownBy w3 none from gr_noneThen (Hg.out.trans Hg2.out) ((gr_alloc (World.grownBy.refl w2 (some w2.heap.size)) _).trans hg3) (fun j hj=>by injection hj with hj;have:=(Hg.out.trans Hg2.out).size;omega))
   have HE3:=Lib.hid (hE.grown0 HG3.out)
   have HD3:=Lib.hid hD3;clear hD3
   have Hg3:=Lib.hid hg3;clear hg3
   go_wp2_with fail
   refine (Hfbr.out _ HE3.out w2.heap.size HE2.out.1 (by exact HD3.out)).mono ?_
   rintro e w4 ⟨rfl,hg4⟩
   have Hg4:=Lib.hid hg4;clear hg4
   go_wp2_with fail
   go_ret3
   exact ⟨rfl,gr_noneThen HG3.out Hg4.out (fun j hj=>by injection hj with hj;have:=(Hg.out.trans Hg2.out).size;omega)⟩
 ·obtain ⟨xp,hpn,hpf⟩:=pf64_ex W0 hF.toFInit2 M hM9 p hp1 hp2 S63 (.inr HS63.out)
  obtain ⟨xq,hqn,hqf⟩:=pf64_ex W0 hF.toFInit2 M1 hM9' p hp1 hp2 S63 (.inr HS63.out)
  have Hpf:=Lib.hid hpf;clear hpf
  have Hqf:=Lib.hid hqf;clear hqf
  rcases Bool.eq_false_or_eq_true (FloatKind.f64.format.order xp xq == some Ordering.eq) with heq | heq
  ·refine ⟨xp,hpn,fun w hE=>?_⟩
   clear hpn hqn
   have e0:=hE.cell hopt
   go_enter Tryz.func107,Tryz.ntmps107
   go_wp2_with fail
   refine (Hsp.out _).mono ?_
   rintro e w1 ⟨rfl,hw⟩
   subst w1
   go_wp2_with fail
   refine (Hrf.out _).mono ?_
   rintro e w1 ⟨rfl,hw⟩
   subst w1
   go_wp2_with fail
   refine (b2_tv Ho1.out _).mono ?_
   rintro e w1 ⟨rfl,hw⟩
   subst w1
   go_wp2_with fail
   refine (Hpf.out _ hE).mono ?_
   rintro e w1 ⟨rfl,hg⟩
   have HE1:=Lib.hid (hE.grown0 hg)
   have Hg:=Lib.hid hg;clear hg
   go_wp2_with fail
   refine (Hqf.out _ HE1.out).mono ?_
   rintro e w2 ⟨rfl,hg2⟩
   have HE2:=Lib.hid (HE1.out.grown0 hg2)
   have Hg2:=Lib.hid hg2;clear hg2
   go_wp2_with fail
   go_ret3
   exact ⟨rfl,Hg.out.trans Hg2.out⟩
  ·refine ⟨xs,Hfn.out,fun w hE=>?_⟩
   clear hpn hqn
   have e0:=hE.cell hopt
   go_enter Tryz.func107,Tryz.ntmps107
   go_wp2_with fail
   refine (Hsp.out _).mono ?_
   rintro e w1 ⟨rfl,hw⟩
   subst w1
   go_wp2_with fail
   refine (Hrf.out _).mono ?_
   rintro e w1 ⟨rfl,hw⟩
   subst w1
   go_wp2_with fail
   refine (b2_tv Ho1.out _).mono ?_
   rintro e w1 ⟨rfl,hw⟩
   subst w1
   go_wp2_with fail
   refine (Hpf.out _ hE).mono ?_
   rintro e w1 ⟨rfl,hg⟩
   have HE1:=Lib.hid (hE.grown0 hg)
   have Hg:=Lib.hid hg;clear hg
   go_wp2_with fail
   refine (Hqf.out _ HE1.out).mono ?_
   rintro e w2 ⟨rfl,hg2⟩
   have HE2:=Lib.hid (HE1.out.grown0 hg2)
   have Hg2:=Lib.hid hg2;clear hg2
   go_wp2_with fail
   refine (Hset.out _ w2.heap.size _ (by exact zeroDec w2)).mono ?_
   rintro e w3 ⟨rfl,hD3,hg3⟩
   have HG3:=Lib.hid (show w.grownBy w3 none from gr_noneThen (Hg.out.trans Hg2.out) ((gr_alloc (World.grownBy.refl w2 (some w2.heap.size)) _).trans hg3) (fun j hj=>by injection hj with hj;have:=(Hg.out.trans Hg2.out).size;omega))
   have HE3:=Lib.hid (hE.grown0 HG3.out)
   have HD3:=Lib.hid hD3;clear hD3
   have Hg3:=Lib.hid hg3;clear hg3
   go_wp2_with fail
   refine (Hfbr.out _ HE3.out w2.heap.size HE2.out.1 (by exact HD3.out)).mono ?_
   rintro e w4 ⟨rfl,hg4⟩
   have Hg4:=Lib.hid hg4;clear hg4
   go_wp2_with fail
   go_ret3
   exact ⟨rfl,gr_noneThen HG3.out Hg4.out (fun j hj=>by injection hj with hj;have:=(Hg.out.trans Hg2.out).size;omega)⟩
end Go.Proofs.YtfkecmlmnhbmoaaGreatDoor
namespace Go.Proofs.YtfkecmlmnhbmoaaGreatDoor
open Go Go.RowKit
def hexR (h:Int × By × By × Bool):Rd PV:=if h.1 == 0 then some (.str h.2.1,h.2.2.1,h.2.2.2) else none
set_option maxRecDepth 100000 in
set_option maxHeartbeats 40000000 in
theorem val_nil (w:World) (b:Nat) (s:ByteArray) (p l:By) (deep:Int) (hd0:0≤deep) (hd1:deep≤49) (odd ends:Bool) (hR:RdAt w b s p l 0 deep odd ends) (hs:s.size≤1000000000) (oa:Bool) (hP:passM false l odd=([],oa)) :
  Calls Tryz.prog 28 #[.pointer (some ⟨b,0,none⟩)] w fun e w'=>VPost w w' b s deep ends e none:=by
 have hbB:=hR.lt
 have HR:=Lib.hid hR;clear hR
 have hal:=alloc2 w w.heap.size rfl (.cells #[.pointer (some ⟨b,0,none⟩)] 55 (0,0)) (.cells #[.int .i64 0,.int .i64 0,.int .i64 0,.float .f64 0,.string ⟨#[]⟩,.slice none 0 0,.slice none 0 0] 30 (0,0))
 have hmf:∀ (fn:Fn) (first cap:Array Value) (w:World),(Instr.makeFunc fn first cap).run Tryz.prog w=.ok (.func fn first cap) w:=fun _ _ _ _=>rfl
 go_enter_defers Tryz.func28,Tryz.ntmps28
 go_wp2_with fail
 refine (pass_any _ b s p l 0 deep odd ends (by exact (HR.out.alloc _).alloc _) (by omega)).mono ?_
 rintro e w1 ⟨rfl,⟨p1,hR1⟩,hg1⟩
 have hb1:=keep hg1 hal.1 (by simp;omega)
 have hb2:=keep hg1 hal.2 (by simp;omega)
 have hlt1:w.heap.size + 1 < w1.heap.size:=(Array.getElem?_eq_some_iff.1 hb2).1
 have HG1:=Lib.hid (gr_same (gr_alloc (gr_alloc (World.grownBy.refl w (some b)) _) _) hg1)
 have HB1:=Lib.hid hb1
 have HB2:=Lib.hid hb2
 have d0:w1.cell? ⟨w.heap.size,0,none⟩=some (.pointer (some ⟨b,0,none⟩)):=by simp [World.cell?,hb1]
 rw [hP] at hR1
 simp only at hR1
 obtain ⟨c0,c1,c2,c3,c4,c5,cf⟩:=hR1.cells
 have hsz1:=hR1.size
 have HR1:=Lib.hid hR1
 have hnb1:¬w.heap.size=b:=by omega
 have hnb2:¬w.heap.size + 1=b:=by omega
 have hp1:p1.length≤s.size:=by omega
 have Hsz1:=Lib.hid hsz1
 clear hg1 hal hb1 hb2 hR1 hsz1
 go_wp2_with fail
 have hle:s.size≤p1.length:=by have:=Hsz1.out;simp at this;omega
 have HR2:=Lib.hid (HR1.out.set3 (deep + 1))
 have HG2:=Lib.hid (gr_set HG1.out 3 (.int .i64 (deep + 1)))
 have hlt2:w.heap.size + 1 < (w1.setCell ⟨b,3,none⟩ (.int .i64 (deep + 1))).heap.size:=by simp;omega
 have HB3:=Lib.hid ((Below.heap_setCell w1 ⟨b,3,none⟩ (.int .i64 (deep + 1)) w.heap.size (by simp;omega)).trans HB1.out)
 have HB4:=Lib.hid ((Below.heap_setCell w1 ⟨b,3,none⟩ (.int .i64 (deep + 1)) (w.heap.size + 1) (by simp;omega)).trans HB2.out)
 obtain ⟨w2,hw2⟩:∃ w2,w2=w1.setCell ⟨b,3,none⟩ (.int .i64 (deep + 1)):=⟨_,rfl⟩
 rw [←hw2] at HR2 HG2 HB3 HB4 hlt2 ⊢
 clear hw2 HR1 HG1 HB1 HB2 c0 c1 c2 c3 c4 c5 cf d0 hlt1
 obtain ⟨c0,c1,c2,c3,c4,c5,cf⟩:=HR2.out.cells
 have d0:w2.cell? ⟨w.heap.size,0,none⟩=some (.pointer (some ⟨b,0,none⟩)):=by simp [World.cell?,HB3.out]
 go_quiet ((first|(go_at_call 42;with_reducible first|exact qaw _|exact qbw _)|(go_at_call 43;with_reducible first|exact qap _|exact qbp _)|(go_at_call 52;with_reducible first|exact qad _|exact qbd _)|(go_at_call 76;with_reducible first|exact qar _|exact qbr _)|(go_at_call 75;with_reducible first|exact qag _|exact qbg _)));go_wp2_with fail
 cases ends
 ·(refine wp_region_quiet_tail 14 (by kernel_rfl) (by kernel_rfl) ?_;simp only [List.take_succ_cons,List.take_zero,List.drop_succ_cons,List.drop_zero];(repeat (go_big_quiet_step ((first|(go_at_call 42;with_reducible first|exact qaw _|exact qbw _)|(go_at_call 43;with_reducible first|exact qap _|exact qbp _)|(go_at_call 52;with_reducible first|exact qad _|exact qbd _)|(go_at_call 76;with_reducible first|exact qar _|exact qbr _)|(go_at_call 75;with_reducible first|exact qag _|exact qbg _)))));refine wpQuiet_nil ?_;intro _ hwt;obtain ⟨nt,hwt'⟩:=hwt;subst hwt';go_wp2_with fail)
  refine (fail_any _ b s p1 [] 0 (deep + 1) oa (decide (1 < deep + 1)) (by exact (HR2.out.drewN _).set5 _) 1).mono ?_
  rintro e w3 ⟨rfl,hR3,hg3'⟩
  have hg3:w2.grownBy w3 (some b):=gr_same (gr_set (gr_drewN (World.grownBy.refl w2 (some b)) _) _ _) hg3'
  clear hg3'
  unfold zeroV
  have hz3:=keep hg3 HB4.out (by simp;omega)
  have hx3:=keep hg3 HB3.out (by simp;omega)
  have HG3:=Lib.hid (gr_same HG2.out (show w2.grownBy w3 (some b) from ⟨hg3.os,hg3.tape,hg3.output,hg3.size,hg3.block⟩))
  have hlt3:w.heap.size + 1 < w3.heap.size:=(Array.getElem?_eq_some_iff.1 hz3).1
  obtain ⟨z0,z1,z2,z3,z4,z5,z6,zf⟩:=zb_cells hz3
  have HZ3:=Lib.hid hz3
  have HX3:=Lib.hid hx3
  have HR3:=Lib.hid hR3;clear hR3
  clear hz3 hx3 hg3 c0 c1 c2 c3 c4 c5 cf d0 HG2 HR2 HB3 HB4
  go_wp2_with fail
  refine val_door HX3.out HZ3.out HR3.out HG3.out hbB hd0 (by omega) rfl ?_
  intro w' g1 g2 g3 g4
  exact ⟨_,rfl,⟨_,_,_,_,_,_,_,_,_,_,_,rfl⟩,⟨p1,[],oa,failB 0 1,(decide (1 < deep + 1)),failB_ne _ _ (by decide),g1⟩,g2⟩
 ·(refine wp_region_quiet_tail 14 (by kernel_rfl) (by kernel_rfl) ?_;simp only [List.take_succ_cons,List.take_zero,List.drop_succ_cons,List.drop_zero];(repeat (go_big_quiet_step ((first|(go_at_call 42;with_reducible first|exact qaw _|exact qbw _)|(go_at_call 43;with_reducible first|exact qap _|exact qbp _)|(go_at_call 52;with_reducible first|exact qad _|exact qbd _)|(go_at_call 76;with_reducible first|exact qar _|exact qbr _)|(go_at_call 75;with_reducible first|exact qag _|exact qbg _)))));refine wpQuiet_nil ?_;intro _ hwt;obtain ⟨nt,hwt'⟩:=hwt;subst hwt';go_wp2_with fail)
  refine (fail_any _ b s p1 [] 0 (deep + 1) oa (true) (by exact (HR2.out.drewN _).set5 _) 1).mono ?_
  rintro e w3 ⟨rfl,hR3,hg3'⟩
  have hg3:w2.grownBy w3 (some b):=gr_same (gr_set (gr_drewN (World.grownBy.refl w2 (some b)) _) _ _) hg3'
  clear hg3'
  unfold zeroV
  have hz3:=keep hg3 HB4.out (by simp;omega)
  have hx3:=keep hg3 HB3.out (by simp;omega)
  have HG3:=Lib.hid (gr_same HG2.out (show w2.grownBy w3 (some b) from ⟨hg3.os,hg3.tape,hg3.output,hg3.size,hg3.block⟩))
  have hlt3:w.heap.size + 1 < w3.heap.size:=(Array.getElem?_eq_some_iff.1 hz3).1
  obtain ⟨z0,z1,z2,z3,z4,z5,z6,zf⟩:=zb_cells hz3
  have HZ3:=Lib.hid hz3
  have HX3:=Lib.hid hx3
  have HR3:=Lib.hid hR3;clear hR3
  clear hz3 hx3 hg3 c0 c1 c2 c3 c4 c5 cf d0 HG2 HR2 HB3 HB4
  go_wp2_with fail
  refine val_door HX3.out HZ3.out HR3.out HG3.out hbB hd0 (by omega) rfl ?_
  intro w' g1 g2 g3 g4
  exact ⟨_,rfl,⟨_,_,_,_,_,_,_,_,_,_,_,rfl⟩,⟨p1,[],oa,failB 0 1,(true),failB_ne _ _ (by decide),g1⟩,g2⟩
set_option maxRecDepth 100000 in
set_option maxHeartbeats 40000000 in
theorem val_hex (w:World) (b:Nat) (s:ByteArray) (p l:By) (deep:Int) (hd0:0≤deep) (hd1:deep≤49) (odd ends:Bool) (hR:RdAt w b s p l 0 deep odd ends) (hs:s.size≤1000000000) (oa:Bool) (c:UInt8) (la:By) (hP:passM false l odd=(c::la,oa)) (h40:((c.toNat:Int) == 40)=false) (hd:is2 (c::la) 60=false) (h60:((c.toNat:Int) == 60)=true) :
  Calls Tryz.prog 28 #[.pointer (some ⟨b,0,none⟩)] w fun e w'=>VPost w w' b s deep ends e (hexR (hexF la false 0 [] oa)):=by
 have hbB:=hR.lt
 have HR:=Lib.hid hR;clear hR
 have hal:=alloc2 w w.heap.size rfl (.cells #[.pointer (some ⟨b,0,none⟩)] 55 (0,0)) (.cells #[.int .i64 0,.int .i64 0,.int .i64 0,.float .f64 0,.string ⟨#[]⟩,.slice none 0 0,.slice none 0 0] 30 (0,0))
 have hmf:∀ (fn:Fn) (first cap:Array Value) (w:World),(Instr.makeFunc fn first cap).run Tryz.prog w=.ok (.func fn first cap) w:=fun _ _ _ _=>rfl
 go_enter_defers Tryz.func28,Tryz.ntmps28
 go_wp2_with fail
 refine (pass_any _ b s p l 0 deep odd ends (by exact (HR.out.alloc _).alloc _) (by omega)).mono ?_
 rintro e w1 ⟨rfl,⟨p1,hR1⟩,hg1⟩
 have hb1:=keep hg1 hal.1 (by simp;omega)
 have hb2:=keep hg1 hal.2 (by simp;omega)
 have hlt1:w.heap.size + 1 < w1.heap.size:=(Array.getElem?_eq_some_iff.1 hb2).1
 have HG1:=Lib.hid (gr_same (gr_alloc (gr_alloc (World.grownBy.refl w (some b)) _) _) hg1)
 have HB1:=Lib.hid hb1
 have HB2:=Lib.hid hb2
 have d0:w1.cell? ⟨w.heap.size,0,none⟩=some (.pointer (some ⟨b,0,none⟩)):=by simp [World.cell?,hb1]
 rw [hP] at hR1
 simp only at hR1
 obtain ⟨c0,c1,c2,c3,c4,c5,cf⟩:=hR1.cells
 have hsz1:=hR1.size
 have HR1:=Lib.hid hR1
 have hnb1:¬w.heap.size=b:=by omega
 have hnb2:¬w.heap.size + 1=b:=by omega
 have hp1:p1.length≤s.size:=by omega
 have Hsz1:=Lib.hid hsz1
 clear hg1 hal hb1 hb2 hR1 hsz1
 go_wp2_with fail
 have hlt:p1.length < s.size:=by have:=Hsz1.out;simp at this;omega
 obtain ⟨hk,hget⟩:=HR1.out.head
 have hle:¬s.size≤p1.length:=by omega
 have HR2:=Lib.hid (HR1.out.set3 (deep + 1))
 have HG2:=Lib.hid (gr_set HG1.out 3 (.int .i64 (deep + 1)))
 have hlt2:w.heap.size + 1 < (w1.setCell ⟨b,3,none⟩ (.int .i64 (deep + 1))).heap.size:=by simp;omega
 have HB3:=Lib.hid ((Below.heap_setCell w1 ⟨b,3,none⟩ (.int .i64 (deep + 1)) w.heap.size (by simp;omega)).trans HB1.out)
 have HB4:=Lib.hid ((Below.heap_setCell w1 ⟨b,3,none⟩ (.int .i64 (deep + 1)) (w.heap.size + 1) (by simp;omega)).trans HB2.out)
 obtain ⟨w2,hw2⟩:∃ w2,w2=w1.setCell ⟨b,3,none⟩ (.int .i64 (deep + 1)):=⟨_,rfl⟩
 rw [←hw2] at HR2 HG2 HB3 HB4 hlt2 ⊢
 clear hw2 HR1 HG1 HB1 HB2 c0 c1 c2 c3 c4 c5 cf d0 hlt1
 obtain ⟨c0,c1,c2,c3,c4,c5,cf⟩:=HR2.out.cells
 have d0:w2.cell? ⟨w.heap.size,0,none⟩=some (.pointer (some ⟨b,0,none⟩)):=by simp [World.cell?,HB3.out]
 go_quiet ((first|(go_at_call 42;with_reducible first|exact qaw _|exact qbw _)|(go_at_call 43;with_reducible first|exact qap _|exact qbp _)|(go_at_call 52;with_reducible first|exact qad _|exact qbd _)|(go_at_call 76;with_reducible first|exact qar _|exact qbr _)|(go_at_call 75;with_reducible first|exact qag _|exact qbg _)));go_wp2_with fail
 go_quiet ((first|(go_at_call 42;with_reducible first|exact qaw _|exact qbw _)|(go_at_call 43;with_reducible first|exact qap _|exact qbp _)|(go_at_call 52;with_reducible first|exact qad _|exact qbd _)|(go_at_call 76;with_reducible first|exact qar _|exact qbr _)|(go_at_call 75;with_reducible first|exact qag _|exact qbg _)));go_wp2_with fail
 refine (is_any _ b s p1 (c::la) 0 (deep + 1) oa ends (by exact HR2.out.drewN _) (by omega) ⟨#[60,60]⟩ (by decide)).mono ?_
 rintro e w2' ⟨rfl,n2,hw2'⟩
 have hpre:(⟨#[60,60]⟩:ByteArray).data.toList.isPrefixOf (c::la)=is2 (c::la) 60:=pre2 60 (c::la)
 rw [hpre,hd]
 clear hpre
 subst w2'
 go_wp2_with fail
 go_quiet ((first|(go_at_call 42;with_reducible first|exact qaw _|exact qbw _)|(go_at_call 43;with_reducible first|exact qap _|exact qbp _)|(go_at_call 52;with_reducible first|exact qad _|exact qbd _)|(go_at_call 76;with_reducible first|exact qar _|exact qbr _)|(go_at_call 75;with_reducible first|exact qag _|exact qbg _)));go_wp2_with fail
 refine (hexs_any _ b s p1 la c 0 (deep + 1) oa ends (by exact HR2.out.drewN _) (by omega)).mono ?_
 intro e w3 hP3
 obtain ⟨hh,hhe⟩:∃ hh,hh=hexF la false 0 [] oa:=⟨_,rfl⟩
 rw [←hhe] at hP3
 obtain ⟨h1,t,r,o2⟩:=hh
 have Hhe:=Lib.hid hhe;clear hhe
 obtain ⟨rfl,⟨p3,hR3⟩,hg3⟩:=hP3
 simp only at hR3
 have hz3:=keep hg3 HB4.out (by simp;omega)
 have hx3:=keep hg3 HB3.out (by simp;omega)
 have HG3:=Lib.hid (gr_same HG2.out (show w2.grownBy w3 (some b) from ⟨hg3.os,hg3.tape,hg3.output,hg3.size,hg3.block⟩))
 have hlt3:w.heap.size + 1 < w3.heap.size:=(Array.getElem?_eq_some_iff.1 hz3).1
 obtain ⟨z0,z1,z2,z3,z4,z5,z6,zf⟩:=zb_cells hz3
 have HZ3:=Lib.hid hz3
 have HX3:=Lib.hid hx3
 have HR3:=Lib.hid hR3;clear hR3
 clear hz3 hx3 hg3 c0 c1 c2 c3 c4 c5 cf d0 HG2 HR2 HB3 HB4
 go_wp2_with fail
 refine val_door HX3.out HZ3.out HR3.out HG3.out hbB hd0 (by omega) rfl ?_
 intro w' g1 g2 g3 g4
 rw [←Hhe.out]
 unfold hexR
 simp only
 by_cases h0:h1=0
 ·rw [if_pos (by simpa using h0)]
  rw [if_pos h0] at g1
  exact ⟨nilS,nilS,fun _=>False,rfl,IsV.plain (by trivial),fun k hk=>hk.elim,⟨p3,g1⟩,g2⟩
 ·rw [if_neg (by simpa using h0)]
  rw [if_neg h0] at g1
  exact ⟨_,rfl,⟨_,_,_,_,_,_,_,_,_,_,_,rfl⟩,⟨p3,r,o2,failB 0 h1,ends,failB_ne _ _ h0,g1⟩,g2⟩
set_option maxRecDepth 100000 in
set_option maxHeartbeats 40000000 in
theorem val_name (w:World) (b:Nat) (s:ByteArray) (p l:By) (deep:Int) (hd0:0≤deep) (hd1:deep≤49) (odd ends:Bool) (hR:RdAt w b s p l 0 deep odd ends) (hs:s.size≤1000000000) (oa:Bool) (c:UInt8) (la:By) (hP:passM false l odd=(c::la,oa)) (h40:((c.toNat:Int) == 40)=false) (hd:is2 (c::la) 60=false) (h60:((c.toNat:Int) == 60)=false) (h47:((c.toNat:Int) == 47)=true) :
  Calls Tryz.prog 28 #[.pointer (some ⟨b,0,none⟩)] w fun e w'=>VPost w w' b s deep ends e ((nameB (wordT la) []).map fun k=>(.name k,wordR la,wordO la oa)):=by
 have hbB:=hR.lt
 have HR:=Lib.hid hR;clear hR
 have hal:=alloc2 w w.heap.size rfl (.cells #[.pointer (some ⟨b,0,none⟩)] 55 (0,0)) (.cells #[.int .i64 0,.int .i64 0,.int .i64 0,.float .f64 0,.string ⟨#[]⟩,.slice none 0 0,.slice none 0 0] 30 (0,0))
 have hmf:∀ (fn:Fn) (first cap:Array Value) (w:World),(Instr.makeFunc fn first cap).run Tryz.prog w=.ok (.func fn first cap) w:=fun _ _ _ _=>rfl
 go_enter_defers Tryz.func28,Tryz.ntmps28
 go_wp2_with fail
 refine (pass_any _ b s p l 0 deep odd ends (by exact (HR.out.alloc _).alloc _) (by omega)).mono ?_
 rintro e w1 ⟨rfl,⟨p1,hR1⟩,hg1⟩
 have hb1:=keep hg1 hal.1 (by simp;omega)
 have hb2:=keep hg1 hal.2 (by simp;omega)
 have hlt1:w.heap.size + 1 < w1.heap.size:=(Array.getElem?_eq_some_iff.1 hb2).1
 have HG1:=Lib.hid (gr_same (gr_alloc (gr_alloc (World.grownBy.refl w (some b)) _) _) hg1)
 have HB1:=Lib.hid hb1
 have HB2:=Lib.hid hb2
 have d0:w1.cell? ⟨w.heap.size,0,none⟩=some (.pointer (some ⟨b,0,none⟩)):=by simp [World.cell?,hb1]
 rw [hP] at hR1
 simp only at hR1
 obtain ⟨c0,c1,c2,c3,c4,c5,cf⟩:=hR1.cells
 have hsz1:=hR1.size
 have HR1:=Lib.hid hR1
 have hnb1:¬w.heap.size=b:=by omega
 have hnb2:¬w.heap.size + 1=b:=by omega
 have hp1:p1.length≤s.size:=by omega
 have Hsz1:=Lib.hid hsz1
 clear hg1 hal hb1 hb2 hR1 hsz1
 go_wp2_with fail
 have hlt:p1.length < s.size:=by have:=Hsz1.out;simp at this;omega
 obtain ⟨hk,hget⟩:=HR1.out.head
 have hle:¬s.size≤p1.length:=by omega
 have HR2:=Lib.hid (HR1.out.set3 (deep + 1))
 have HG2:=Lib.hid (gr_set HG1.out 3 (.int .i64 (deep + 1)))
 have hlt2:w.heap.size + 1 < (w1.setCell ⟨b,3,none⟩ (.int .i64 (deep + 1))).heap.size:=by simp;omega
 have HB3:=Lib.hid ((Below.heap_setCell w1 ⟨b,3,none⟩ (.int .i64 (deep + 1)) w.heap.size (by simp;omega)).trans HB1.out)
 have HB4:=Lib.hid ((Below.heap_setCell w1 ⟨b,3,none⟩ (.int .i64 (deep + 1)) (w.heap.size + 1) (by simp;omega)).trans HB2.out)
 obtain ⟨w2,hw2⟩:∃ w2,w2=w1.setCell ⟨b,3,none⟩ (.int .i64 (deep + 1)):=⟨_,rfl⟩
 rw [←hw2] at HR2 HG2 HB3 HB4 hlt2 ⊢
 clear hw2 HR1 HG1 HB1 HB2 c0 c1 c2 c3 c4 c5 cf d0 hlt1
 obtain ⟨c0,c1,c2,c3,c4,c5,cf⟩:=HR2.out.cells
 have d0:w2.cell? ⟨w.heap.size,0,none⟩=some (.pointer (some ⟨b,0,none⟩)):=by simp [World.cell?,HB3.out]
 go_quiet ((first|(go_at_call 42;with_reducible first|exact qaw _|exact qbw _)|(go_at_call 43;with_reducible first|exact qap _|exact qbp _)|(go_at_call 52;with_reducible first|exact qad _|exact qbd _)|(go_at_call 76;with_reducible first|exact qar _|exact qbr _)|(go_at_call 75;with_reducible first|exact qag _|exact qbg _)));go_wp2_with fail
 go_quiet ((first|(go_at_call 42;with_reducible first|exact qaw _|exact qbw _)|(go_at_call 43;with_reducible first|exact qap _|exact qbp _)|(go_at_call 52;with_reducible first|exact qad _|exact qbd _)|(go_at_call 76;with_reducible first|exact qar _|exact qbr _)|(go_at_call 75;with_reducible first|exact qag _|exact qbg _)));go_wp2_with fail
 refine (is_any _ b s p1 (c::la) 0 (deep + 1) oa ends (by exact HR2.out.drewN _) (by omega) ⟨#[60,60]⟩ (by decide)).mono ?_
 rintro e w2' ⟨rfl,n2,hw2'⟩
 have hpre:(⟨#[60,60]⟩:ByteArray).data.toList.isPrefixOf (c::la)=is2 (c::la) 60:=pre2 60 (c::la)
 rw [hpre,hd]
 clear hpre
 subst w2'
 go_wp2_with fail
 go_quiet ((first|(go_at_call 42;with_reducible first|exact qaw _|exact qbw _)|(go_at_call 43;with_reducible first|exact qap _|exact qbp _)|(go_at_call 52;with_reducible first|exact qad _|exact qbd _)|(go_at_call 76;with_reducible first|exact qar _|exact qbr _)|(go_at_call 75;with_reducible first|exact qag _|exact qbg _)));go_wp2_with fail
 go_quiet ((first|(go_at_call 42;with_reducible first|exact qaw _|exact qbw _)|(go_at_call 43;with_reducible first|exact qap _|exact qbp _)|(go_at_call 52;with_reducible first|exact qad _|exact qbd _)|(go_at_call 76;with_reducible first|exact qar _|exact qbr _)|(go_at_call 75;with_reducible first|exact qag _|exact qbg _)));go_wp2_with fail
 refine (name_any _ b s p1 la c 0 (deep + 1) oa ends (by exact HR2.out.drewN _) (by omega)).mono ?_
 intro e w3 hP3
 obtain ⟨hn,hne⟩:∃ hn,hn=nameB (wordT la) []:=⟨_,rfl⟩
 rw [←hne] at hP3
 have Hne:=Lib.hid hne;clear hne
 obtain ⟨rfl,⟨p3,hR3⟩,hg3⟩:=hP3
 have hz3:=keep hg3 HB4.out (by simp;omega)
 have hx3:=keep hg3 HB3.out (by simp;omega)
 have HG3:=Lib.hid (gr_same HG2.out (show w2.grownBy w3 (some b) from ⟨hg3.os,hg3.tape,hg3.output,hg3.size,hg3.block⟩))
 have hlt3:w.heap.size + 1 < w3.heap.size:=(Array.getElem?_eq_some_iff.1 hz3).1
 obtain ⟨z0,z1,z2,z3,z4,z5,z6,zf⟩:=zb_cells hz3
 have HZ3:=Lib.hid hz3
 have HX3:=Lib.hid hx3
 have HR3:=Lib.hid hR3;clear hR3
 clear hz3 hx3 hg3 c0 c1 c2 c3 c4 c5 cf d0 HG2 HR2 HB3 HB4
 go_wp2_with fail
 refine val_door HX3.out HZ3.out HR3.out HG3.out hbB hd0 (by omega) rfl ?_
 intro w' g1 g2 g3 g4
 rw [←Hne.out]
 cases hn with
 | none=>exact ⟨_,rfl,⟨_,_,_,_,_,_,_,_,_,_,_,rfl⟩,⟨p3,_,_,_,ends,failB_ne _ _ (by decide),g1⟩,g2⟩
 | some k=>exact ⟨nilS,nilS,fun _=>False,rfl,IsV.plain (by trivial),fun k hk=>hk.elim,⟨p3,g1⟩,g2⟩
set_option maxRecDepth 100000 in
set_option maxHeartbeats 40000000 in
theorem val_deep (w:World) (b:Nat) (s:ByteArray) (p l:By) (deep:Int) (hd1:50≤deep) (hd2:deep≤50) (odd ends:Bool) (hR:RdAt w b s p l 0 deep odd ends) (hs:s.size≤1000000000) :
  Calls Tryz.prog 28 #[.pointer (some ⟨b,0,none⟩)] w fun e w'=>VPost w w' b s deep ends e none:=by
 obtain ⟨la,oa,hP⟩:∃ la oa,passM false l odd=(la,oa):=⟨_,_,rfl⟩
 have hbB:=hR.lt
 have HR:=Lib.hid hR;clear hR
 have hal:=alloc2 w w.heap.size rfl (.cells #[.pointer (some ⟨b,0,none⟩)] 55 (0,0)) (.cells #[.int .i64 0,.int .i64 0,.int .i64 0,.float .f64 0,.string ⟨#[]⟩,.slice none 0 0,.slice none 0 0] 30 (0,0))
 have hmf:∀ (fn:Fn) (first cap:Array Value) (w:World),(Instr.makeFunc fn first cap).run Tryz.prog w=.ok (.func fn first cap) w:=fun _ _ _ _=>rfl
 go_enter_defers Tryz.func28,Tryz.ntmps28
 go_wp2_with fail
 refine (pass_any _ b s p l 0 deep odd ends (by exact (HR.out.alloc _).alloc _) (by omega)).mono ?_
 rintro e w1 ⟨rfl,⟨p1,hR1⟩,hg1⟩
 have hb1:=keep hg1 hal.1 (by simp;omega)
 have hb2:=keep hg1 hal.2 (by simp;omega)
 have hlt1:w.heap.size + 1 < w1.heap.size:=(Array.getElem?_eq_some_iff.1 hb2).1
 have HG1:=Lib.hid (gr_same (gr_alloc (gr_alloc (World.grownBy.refl w (some b)) _) _) hg1)
 have HB1:=Lib.hid hb1
 have HB2:=Lib.hid hb2
 have d0:w1.cell? ⟨w.heap.size,0,none⟩=some (.pointer (some ⟨b,0,none⟩)):=by simp [World.cell?,hb1]
 rw [hP] at hR1
 simp only at hR1
 obtain ⟨c0,c1,c2,c3,c4,c5,cf⟩:=hR1.cells
 have hsz1:=hR1.size
 have HR1:=Lib.hid hR1
 have hnb1:¬w.heap.size=b:=by omega
 have hnb2:¬w.heap.size + 1=b:=by omega
 have hp1:p1.length≤s.size:=by omega
 have Hsz1:=Lib.hid hsz1
 clear hg1 hal hb1 hb2 hR1 hsz1
 go_wp2_with fail
 have HR2:=Lib.hid (HR1.out.set3 (deep + 1))
 have HG2:=Lib.hid (gr_set HG1.out 3 (.int .i64 (deep + 1)))
 have hlt2:w.heap.size + 1 < (w1.setCell ⟨b,3,none⟩ (.int .i64 (deep + 1))).heap.size:=by simp;omega
 have HB3:=Lib.hid ((Below.heap_setCell w1 ⟨b,3,none⟩ (.int .i64 (deep + 1)) w.heap.size (by simp;omega)).trans HB1.out)
 have HB4:=Lib.hid ((Below.heap_setCell w1 ⟨b,3,none⟩ (.int .i64 (deep + 1)) (w.heap.size + 1) (by simp;omega)).trans HB2.out)
 obtain ⟨w2,hw2⟩:∃ w2,w2=w1.setCell ⟨b,3,none⟩ (.int .i64 (deep + 1)):=⟨_,rfl⟩
 rw [←hw2] at HR2 HG2 HB3 HB4 hlt2 ⊢
 clear hw2 HR1 HG1 HB1 HB2 c0 c1 c2 c3 c4 c5 cf d0 hlt1
 obtain ⟨c0,c1,c2,c3,c4,c5,cf⟩:=HR2.out.cells
 have d0:w2.cell? ⟨w.heap.size,0,none⟩=some (.pointer (some ⟨b,0,none⟩)):=by simp [World.cell?,HB3.out]
 refine (fail_any _ b s p1 la 0 (deep + 1) oa ends (by exact HR2.out) 2).mono ?_
 rintro e w3 ⟨rfl,hR3,hg3⟩
 unfold zeroV
 have hz3:=keep hg3 HB4.out (by simp;omega)
 have hx3:=keep hg3 HB3.out (by simp;omega)
 have HG3:=Lib.hid (gr_same HG2.out (show w2.grownBy w3 (some b) from ⟨hg3.os,hg3.tape,hg3.output,hg3.size,hg3.block⟩))
 have hlt3:w.heap.size + 1 < w3.heap.size:=(Array.getElem?_eq_some_iff.1 hz3).1
 obtain ⟨z0,z1,z2,z3,z4,z5,z6,zf⟩:=zb_cells hz3
 have HZ3:=Lib.hid hz3
 have HX3:=Lib.hid hx3
 have HR3:=Lib.hid hR3;clear hR3
 clear hz3 hx3 hg3 c0 c1 c2 c3 c4 c5 cf d0 HG2 HR2 HB3 HB4
 go_wp2_with fail
 refine val_door HX3.out HZ3.out HR3.out HG3.out hbB (by omega) (by omega) rfl ?_
 intro w' g1 g2 g3 g4
 exact ⟨_,rfl,⟨_,_,_,_,_,_,_,_,_,_,_,rfl⟩,⟨p1,_,oa,failB 0 2,ends,failB_ne _ _ (by decide),g1⟩,g2⟩
end Go.Proofs.YtfkecmlmnhbmoaaGreatDoor
namespace Go.Proofs.YtfkecmlmnhbmoaaGreatDoor
open Go Go.RowKit
open Go.Maps
end Go.Proofs.YtfkecmlmnhbmoaaGreatDoor
namespace Go.Proofs.YtfkecmlmnhbmoaaGreatDoor
open Go Go.RowKit
open Go.Maps
end Go.Proofs.YtfkecmlmnhbmoaaGreatDoor
namespace Go.Proofs.YtfkecmlmnhbmoaaGreatDoor
open Go Go.RowKit
open Go.Maps
end Go.Proofs.YtfkecmlmnhbmoaaGreatDoor
namespace Go.Proofs.YtfkecmlmnhbmoaaGreatDoor
open Go Go.RowKit
open Go.Maps
end Go.Proofs.YtfkecmlmnhbmoaaGreatDoor
namespace Go.Proofs.YtfkecmlmnhbmoaaGreatDoor
def sepA:PO→Bool
 | .name _=>false | .arr _=>false | .dict _ _=>false | _=>true
def sepD:PO→Bool
 | .null=>true | .bool _=>true | .int _=>true | .real _=>true | .ref _ _=>true | _=>false
def spc (b:Bool):By:=if b then [32] else []
mutual
def prP (ff:Nat→By):PO→By
 | .null=>wNull
 | .bool b=>if b then wTrue else wFalse
 | .int n=>Lib.itoa n
 | .real x=>ff x
 | .lit s=>40::(s ++ [41])
 | .hexl s=>60::(s ++ [62])
 | .name s=>47::(if s=[] then [32] else encN s)
 | .ref n g=>Lib.itoa n ++ 32::(Lib.itoa g ++ [32,82])
 | .arr kids=>91::(prAs ff true kids ++ [93])
 | .dict keys kids=>60::60::(prDs ff keys kids ++ [62,62])
def prAs (ff:Nat→By):Bool→List PO→By
 | _,[]=>[]
 | first,p::ps=>spc (!first && sepA p) ++ (prP ff p ++ prAs ff false ps)
def prDs (ff:Nat→By):List By→List PO→By
 | k::ks,p::ps=>47::(encN k ++ (spc (sepD p) ++ (prP ff p ++ prDs ff ks ps)))
 | [],_=>[]
 | _::_,[]=>[]
end
mutual
def mapR (f:Nat→Nat):PO→PO
 | .real x=>.real (f x)
 | .arr kids=>.arr (mapRs f kids)
 | .dict keys kids=>.dict keys (mapRs f kids)
 | .null=>.null
 | .bool b=>.bool b
 | .int n=>.int n
 | .lit s=>.lit s
 | .hexl s=>.hexl s
 | .name s=>.name s
 | .ref n g=>.ref n g
def mapRs (f:Nat→Nat):List PO→List PO
 | []=>[]
 | p::ps=>mapR f p::mapRs f ps
end
mutual
def lvP:PO→Nat
 | .arr kids=>lvPs kids + 1
 | .dict _ kids=>lvPs kids + 1
 | _=>1
def lvPs:List PO→Nat
 | []=>0
 | p::ps=>max (lvP p) (lvPs ps)
end
mutual
def okR (ff:Nat→By) (R:Nat→Prop):PO→Prop
 | .int n=>-2147483648≤n∧n≤2147483647
 | .real x=>numOk (ff x)∧R x
 | .lit s=>∃ t,litF (40::(s ++ [41])) 0 []=some (t,[])
 | .hexl s=>∀ c∈s,0≤hexVal (c.toNat:Int)
 | .name s=>∀ c∈s,(c.toNat:Int)≠0
 | .ref n g=>0 < n∧n≤2147483647∧0≤g∧g≤65535
 | .arr kids=>okRs ff R kids
 | .dict keys kids=>keys.length=kids.length∧keys.Nodup∧(∀ k∈keys,35∉k∧∀ c∈k,(c.toNat:Int)≠0)∧okRs ff R kids
 | .null=>True
 | .bool _=>True
def okRs (ff:Nat→By) (R:Nat→Prop):List PO→Prop
 | []=>True
 | p::ps=>okR ff R p∧okRs ff R ps
end
def Beg1 (r:By):Prop:=∃ la,passM false r false=(la,false)∧wordO la false=false∧headIs (wordT la) (· == 82)=false
def Beg (r:By):Prop:=∃ la,passM false r false=(la,false)∧wordO la false=false∧headIs (wordT la) (· == 82)=false∧Beg1 (wordR la)
theorem Beg.one {r:By} (h:Beg r):Beg1 r:=by
 obtain ⟨la,h1,h2,h3,_⟩:=h
 exact ⟨la,h1,h2,h3⟩
def Fol (r:By):Prop:=EndW r∧Beg r
theorem pass_sp (r:By) (o:Bool):passM false (32::r) o=passM false r o:=by
 simp only [passM];rfl
theorem Beg.sp {r:By} (h:Beg r):Beg (32::r):=by
 obtain ⟨la,h1,h2⟩:=h
 exact ⟨la,by rw [pass_sp];exact h1,h2⟩
theorem Beg1.sp {r:By} (h:Beg1 r):Beg1 (32::r):=by
 obtain ⟨la,h1,h2⟩:=h
 exact ⟨la,by rw [pass_sp];exact h1,h2⟩
theorem Beg.fol {r:By} (h:Beg r):Fol (32::r):=⟨fun c hc=>by simp at hc;subst hc;decide,h.sp⟩
theorem beg_nil:Beg []:=⟨[],rfl,rfl,rfl,[],rfl,rfl,rfl⟩
theorem pass_own {c:UInt8} {l:By} (o:Bool) (hw:isWhite (c.toNat:Int)=false) (h37:c≠37):passM false (c::l) o=(c::l,o):=by
 have:((c.toNat:Int) == 37)=false:=by
  simp only [beq_eq_false_iff_ne]
  intro e;apply h37;apply UInt8.toNat_inj.1
  show c.toNat=37
  omega
 simp only [passM,hw,this,Bool.false_eq_true,if_false]
def dl (c:UInt8):Prop:=c=40∨c=47∨c=60∨c=62∨c=91∨c=93
theorem dl.facts {c:UInt8} (h:dl c):isWhite (c.toNat:Int)=false∧c≠37∧isReg (c.toNat:Int)=false∧(c.toNat:Int)≠123∧(c.toNat:Int)≠125∧(c.toNat:Int)≠41:=by
 rcases h with h | h | h | h | h | h<;>subst h<;>decide
theorem dl.fol {c:UInt8} (h:dl c) (l:By):Fol (c::l):=by
 obtain ⟨h1,h2,h3,h4,h5,h6⟩:=h.facts
 refine ⟨fun d hd=>by simp at hd;subst hd;exact ⟨h3,h4,h5,h6⟩,c::l,pass_own _ h1 h2,?_,?_,c::l,?_,?_,?_⟩
 ·simp [wordO,h3];omega
 ·simp [wordT,h3,headIs]
 ·simp only [wordR,List.dropWhile_cons,h3];exact pass_own _ h1 h2
 ·simp [wordO,h3];omega
 ·simp [wordT,h3,headIs]
theorem reg_pass {c:UInt8} (h:isReg (c.toNat:Int)=true):isWhite (c.toNat:Int)=false∧c≠37∧isDelim (c.toNat:Int)=false:=by
 simp only [isReg,Bool.and_eq_true,Bool.not_eq_true'] at h
 refine ⟨h.1,fun e=>?_,h.2⟩
 subst e;exact absurd h.2 (by decide)
theorem word_beg {w r:By} (hw:∀ c∈w,isReg (c.toNat:Int)=true∧isPlain (c.toNat:Int)=true) (hne:w≠[]) (h82:headIs w (· == 82)=false) (hE:EndW r) (hr:Beg1 r):Beg (w ++ r):=by
 obtain ⟨h1,h2,h3⟩:=word_app hE w hw
 cases w with
 | nil=>exact absurd rfl hne
 | cons c w =>
  obtain ⟨e1,e2,_⟩:=reg_pass (hw c (by simp)).1
  refine ⟨c::w ++ r,pass_own _ e1 e2,h3,?_,?_⟩
  ·rw [h1];exact h82
  ·rw [h2];exact hr
theorem rdV_word {pf:By→Nat} {n:Nat} {w r:By} (hw:∀ c∈w,isReg (c.toNat:Int)=true∧isPlain (c.toNat:Int)=true) (hne:w≠[]):rdV pf (n + 1) (w ++ r) false=rdNum pf (w ++ r) false:=by
 cases w with
 | nil=>exact absurd rfl hne
 | cons c w =>
  obtain ⟨e1,e2,e3⟩:=reg_pass (hw c (by simp)).1
  have hd:isDelim (c.toNat:Int)=false:=e3
  have e3:=e3
  simp only [isDelim,Bool.or_eq_false_iff] at e3
  have hi:is2 (c::(w ++ r)) 60=false:=by
   cases hwr:w ++ r with
   | nil=>rfl
   | cons d t=>simp only [is2];rw [e3.1.1.1.1.1.1.1.2];rfl
  rw [List.cons_append]
  simp only [rdV,pass_own false e1 e2,hi,hd,Bool.false_eq_true,if_false]
  rw [if_neg (by rw [e3.1.1.1.1.1.1.1.1.1];simp),if_neg (by rw [e3.1.1.1.1.1.1.1.2];simp),if_neg (by rw [e3.1.2];simp),if_neg (by rw [e3.1.1.1.1.1.2];simp)]
theorem ref_int {pf:By→Nat} (n:Int) (t:By) {r:By} (hr:Beg r):refF pf n t r false=some (.int n,r,false):=by
 obtain ⟨la,p1,p2,p3,lb,p4,p5,p6⟩:=hr
 simp only [refF,p1,p2,p4,p5,p6]
 split
 ·simp
 ·rw [if_pos (Or.inl (by intro e;rw [e] at p6;simp [headIs] at p6))]
  simp
theorem head_dec (u:Nat):headIs (Lib.decDigits u) isDig=true∧headIs (Lib.decDigits u) (· == 82)=false:=by
 have h:=dec_dig u
 cases hl:Lib.decDigits u with
 | nil=>exact absurd hl (dec_ne _)
 | cons c l =>
  have:=h c (by rw [hl];simp)
  simp [headIs,isDig];omega
theorem itoa_head82 (n:Int):headIs (Lib.itoa n) (· == 82)=false:=by
 unfold Lib.itoa
 split
 ·rfl
 ·exact (head_dec _).2
theorem itoa_headDig {n:Int} (h:0≤n):headIs (Lib.itoa n) isDig=true:=by
 unfold Lib.itoa
 rw [if_neg (by omega)]
 exact (head_dec _).1
theorem itoa_reg (n:Int):∀ c∈Lib.itoa n,isReg (c.toNat:Int)=true∧isPlain (c.toNat:Int)=true:=fun c hc=>⟨(itoa_chars n c hc).1,(itoa_chars n c hc).2.1⟩
theorem endw_sp (l:By):EndW (32::l):=fun c hc=>by simp at hc;subst hc;decide
theorem ref_ref {pf:By→Nat} (n g:Int) (h1:0 < n) (h3:0≤g) (h4:g≤65535) {r:By} (hr:EndW r):refF pf n (Lib.itoa n) (32::(Lib.itoa g ++ 32::82::r)) false=some (.ref n g,r,false):=by
 obtain ⟨w1,w2,w3⟩:=word_app (endw_sp (82::r)) (Lib.itoa g) (itoa_reg g)
 obtain ⟨v1,v2,v3⟩:=word_app hr [82] (by intro c hc;simp at hc;subst hc;decide)
 have hp:passM false (32::(Lib.itoa g ++ 32::82::r)) false=(Lib.itoa g ++ 32::82::r,false):=by
  rw [pass_sp]
  have hreg:=itoa_reg g
  cases hl:Lib.itoa g with
  | nil=>exact absurd hl (itoa_ne g)
  | cons c l =>
   obtain ⟨e1,e2,_⟩:=reg_pass (hreg c (by rw [hl];simp)).1
   exact pass_own _ e1 e2
 have hp2:passM false (32::82::r) false=(82::r,false):=by
  rw [pass_sp];exact pass_own _ (by decide) (by decide)
 have hnum:=itoa_num pf g (by omega) (by omega)
 simp only [List.singleton_append] at v1 v2 v3
 simp only [refF,hp,w1,w2,w3,hp2,v1,v2,v3,hnum]
 rw [if_neg (by simp),if_neg (by simp [itoa_headDig h3,itoa_headDig (show 0≤n by omega)]),if_neg (by simp;omega)]
 have hlen:(32::(Lib.itoa g ++ 32::82::r)).take ((32::(Lib.itoa g ++ 32::82::r)).length - r.length)=32::(Lib.itoa g ++ [32,82]):=by
  have e:32::(Lib.itoa g ++ 32::82::r)=(32::(Lib.itoa g ++ [32,82])) ++ r:=by simp
  rw [e,List.length_append,Nat.add_sub_cancel,List.take_left]
 rw [hlen]
 have hpc:hasPct (32::(Lib.itoa g ++ [32,82]))=false:=by
  unfold hasPct
  rw [List.any_eq_false]
  intro c hc
  simp only [List.mem_cons,List.mem_append,List.not_mem_nil,or_false] at hc
  rcases hc with rfl | hc | rfl | rfl
  ·decide
  ·have:=(itoa_chars g c hc).2.2.2
   intro e
   apply this
   apply UInt8.toNat_inj.1
   show c.toNat=37
   simp at e;omega
  ·decide
  ·decide
 rw [hpc]
 rfl
theorem rdArr_sp {f:By→Bool→Rd PV} {m:Nat} {l:By} {acc:List PV} : rdArr f m (32::l) false acc=rdArr f m l false acc:=by
 cases m with
 | zero=>rfl
 | succ m=>simp only [rdArr,pass_sp]
theorem rdDict_sp {f:By→Bool→Rd PV} {m:Nat} {l:By} {ks:List By} {acc:List PV} : rdDict f m (32::l) false ks acc=rdDict f m l false ks acc:=by
 cases m with
 | zero=>rfl
 | succ m=>simp only [rdDict,pass_sp]
theorem rdV_sp {pf:By→Nat} {n:Nat} {l:By} : rdV pf n (32::l) false=rdV pf n l false:=by
 cases n with
 | zero=>rfl
 | succ n=>simp only [rdV,pass_sp]
theorem pr_head (ff:Nat→By) (R:Nat→Prop) (p:PO) (h:okR ff R p):∃ c t,prP ff p=c::t∧((isReg (c.toNat:Int)=true∧sepA p=true∧sepD p=true)∨(dl c∧c≠93∧c≠62))∧(sepA p=false→dl c)∧(sepD p=false→dl c):=by
 have word:∀ w:By,w≠[]→(∀ c∈w,isReg (c.toNat:Int)=true)→∃ c t,w=c::t∧isReg (c.toNat:Int)=true:=fun w h1 h2=>by
  cases w with
  | nil=>exact absurd rfl h1
  | cons c w=>exact ⟨c,w,rfl,h2 c (by simp)⟩
 cases p with
 | null=>exact ⟨_,_,rfl,.inl (by decide),by simp [sepA],by simp [sepD]⟩
 | bool b=>cases b<;>exact ⟨_,_,rfl,.inl (by simp [sepA,sepD];decide),by simp [sepA],by simp [sepD]⟩
 | int n =>
  obtain ⟨c,t,e,hc⟩:=word (Lib.itoa n) (itoa_ne n) (fun c hc=>(itoa_chars n c hc).1)
  exact ⟨c,t,e,.inl ⟨hc,rfl,rfl⟩,by simp [sepA],by simp [sepD]⟩
 | real x =>
  have hk:=real_chars h.1
  obtain ⟨c,t,e,hc⟩:=word (ff x) hk.1 (fun c hc=>(hk.2 c hc).1)
  exact ⟨c,t,e,.inl ⟨hc,rfl,rfl⟩,by simp [sepA],by simp [sepD]⟩
 | ref n g =>
  obtain ⟨c,t,e,hc⟩:=word (Lib.itoa n) (itoa_ne n) (fun c hc=>(itoa_chars n c hc).1)
  exact ⟨c,t ++ 32::(Lib.itoa g ++ [32,82]),by simp only [prP];rw [e];rfl,.inl ⟨hc,rfl,rfl⟩,by simp [sepA],by simp [sepD]⟩
 | lit s=>exact ⟨40,_,rfl,.inr ⟨.inl rfl,by decide,by decide⟩,fun _=>.inl rfl,fun _=>.inl rfl⟩
 | hexl s=>exact ⟨60,_,rfl,.inr ⟨.inr (.inr (.inl rfl)),by decide,by decide⟩,fun _=>.inr (.inr (.inl rfl)),fun _=>.inr (.inr (.inl rfl))⟩
 | name s=>exact ⟨47,_,rfl,.inr ⟨.inr (.inl rfl),by decide,by decide⟩,fun _=>.inr (.inl rfl),fun _=>.inr (.inl rfl)⟩
 | arr kids=>exact ⟨91,_,rfl,.inr ⟨.inr (.inr (.inr (.inr (.inl rfl)))),by decide,by decide⟩,fun _=>.inr (.inr (.inr (.inr (.inl rfl)))),fun _=>.inr (.inr (.inr (.inr (.inl rfl))))⟩
 | dict keys kids=>exact ⟨60,_,rfl,.inr ⟨.inr (.inr (.inl rfl)),by decide,by decide⟩,fun _=>.inr (.inr (.inl rfl)),fun _=>.inr (.inr (.inl rfl))⟩
theorem pr_beg (ff:Nat→By) (R:Nat→Prop) (p:PO) (h:okR ff R p) {r:By} (hr:Fol r):Beg (prP ff p ++ r):=by
 cases p with
 | null=>exact word_beg (w:=wNull) (by decide) (by decide) (by decide) hr.1 hr.2.one
 | bool b =>
  cases b
  ·exact word_beg (w:=wFalse) (by decide) (by decide) (by decide) hr.1 hr.2.one
  ·exact word_beg (w:=wTrue) (by decide) (by decide) (by decide) hr.1 hr.2.one
 | int n=>exact word_beg (itoa_reg n) (itoa_ne n) (itoa_head82 n) hr.1 hr.2.one
 | real x =>
  have hk:=real_chars h.1
  refine word_beg (fun c hc=>⟨(hk.2 c hc).1,(hk.2 c hc).2.1⟩) hk.1 ?_ hr.1 hr.2.one
  show headIs (ff x) (· == 82)=false
  cases hl:ff x with
  | nil=>rfl
  | cons c l =>
   have:=(hk.2 c (by rw [hl];simp)).2.2.1
   simp only [headIs,beq_eq_false_iff_ne]
   intro e;apply this;apply UInt8.toNat_inj.1;show c.toNat=82;omega
 | ref n g =>
  simp only [prP,List.append_assoc,List.cons_append]
  refine word_beg (itoa_reg n) (itoa_ne n) (itoa_head82 n) (endw_sp _) (Beg1.sp ?_)
  obtain ⟨v1,v2,v3⟩:=word_app (endw_sp (82::r)) (Lib.itoa g) (itoa_reg g)
  have hreg:=itoa_reg g
  have h82:=itoa_head82 g
  cases hl:Lib.itoa g with
  | nil=>exact absurd hl (itoa_ne g)
  | cons c l =>
   rw [hl] at v1 v3 h82 hreg
   obtain ⟨e1,e2,_⟩:=reg_pass (hreg c (by simp)).1
   exact ⟨c::(l ++ 32::82::r),pass_own _ e1 e2,v3,by rw [←List.cons_append,v1];exact h82⟩
 | lit s=>exact (dl.fol (.inl rfl) _).2
 | hexl s=>exact (dl.fol (.inr (.inr (.inl rfl))) _).2
 | name s=>exact (dl.fol (.inr (.inl rfl)) _).2
 | arr kids=>exact (dl.fol (.inr (.inr (.inr (.inr (.inl rfl))))) _).2
 | dict keys kids=>exact (dl.fol (.inr (.inr (.inl rfl))) _).2
end Go.Proofs.YtfkecmlmnhbmoaaGreatDoor
namespace Go.Proofs.YtfkecmlmnhbmoaaGreatDoor
theorem pr_ne (ff:Nat→By) (R:Nat→Prop) (p:PO) (h:okR ff R p):1≤(prP ff p).length:=by
 obtain ⟨c,t,e,_⟩:=pr_head ff R p h
 rw [e];simp
theorem spA_fol {ff:Nat→By} {R:Nat→Prop} {p:PO} (h:okR ff R p) {r:By} (hr:Fol r):Fol (spc (sepA p) ++ (prP ff p ++ r)):=by
 cases hs:sepA p with
 | true=>exact (pr_beg ff R p h hr).fol
 | false =>
  obtain ⟨c,t,e,_,h2,_⟩:=pr_head ff R p h
  refine ⟨?_,by simpa [spc] using pr_beg ff R p h hr⟩
  rw [e]
  exact ((h2 hs).fol _).1
theorem spD_fol {ff:Nat→By} {R:Nat→Prop} {p:PO} (h:okR ff R p) (r:By):EndW (spc (sepD p) ++ (prP ff p ++ r)):=by
 cases hs:sepD p with
 | true=>exact endw_sp _
 | false =>
  obtain ⟨c,t,e,_,_,h3⟩:=pr_head ff R p h
  rw [e]
  exact ((h3 hs).fol _).1
theorem as_fol (ff:Nat→By) (R:Nat→Prop):∀ (ps:List PO),okRs ff R ps→∀ r,Fol (prAs ff false ps ++ 93::r):=by
 intro ps
 induction ps with
 | nil=>intro _ r;exact dl.fol (.inr (.inr (.inr (.inr (.inr rfl))))) r
 | cons p ps ih =>
  intro h r
  simp only [okRs] at h
  simp only [prAs,List.append_assoc,Bool.not_false,Bool.true_and]
  exact spA_fol h.1 (ih h.2 r)
theorem ds_fol (ff:Nat→By):∀ (ks:List By) (ps:List PO),∀ r,Fol (prDs ff ks ps ++ 62::62::r):=by
 intro ks ps r
 cases ks with
 | nil =>
  have e:prDs ff [] ps=[]:=by cases ps<;>simp [prDs]
  rw [e];exact dl.fol (.inr (.inr (.inr (.inl rfl)))) _
 | cons k ks =>
  cases ps with
  | nil =>
   have e:prDs ff (k::ks) []=[]:=by simp [prDs]
   rw [e];exact dl.fol (.inr (.inr (.inr (.inl rfl)))) _
  | cons p ps =>
   have e:prDs ff (k::ks) (p::ps)=47::(encN k ++ (spc (sepD p) ++ (prP ff p ++ prDs ff ks ps))):=by simp [prDs]
   rw [e];exact dl.fol (.inr (.inl rfl)) _
theorem as_len (ff:Nat→By) (R:Nat→Prop):∀ (ps:List PO) (b:Bool),okRs ff R ps→ps.length≤(prAs ff b ps).length:=by
 intro ps
 induction ps with
 | nil=>intro _ _;simp
 | cons p ps ih =>
  intro b h
  simp only [okRs] at h
  have h1:=pr_ne ff R p h.1
  have h2:=ih false h.2
  simp only [prAs,List.length_append,List.length_cons]
  omega
theorem ds_len (ff:Nat→By):∀ (ks:List By) (ps:List PO),ks.length=ps.length→ks.length≤(prDs ff ks ps).length:=by
 intro ks
 induction ks with
 | nil=>intro _ _;simp
 | cons k ks ih =>
  intro ps h
  cases ps with
  | nil=>simp at h
  | cons p ps =>
   have h2:=ih ps (by simpa using h)
   simp only [prDs,List.length_append,List.length_cons]
   omega
theorem pr_pass (ff:Nat→By) (R:Nat→Prop) (p:PO) (h:okR ff R p) (r:By) (o:Bool):passM false (prP ff p ++ r) o=(prP ff p ++ r,o)∧headIs (prP ff p ++ r) (· == 93)=false:=by
 obtain ⟨c,t,e,h1,_⟩:=pr_head ff R p h
 rw [e]
 rcases h1 with ⟨h1,_⟩ | ⟨h1,h2,_⟩
 ·obtain ⟨a,b,d⟩:=reg_pass h1
  refine ⟨pass_own _ a b,?_⟩
  simp only [isDelim,Bool.or_eq_false_iff] at d
  exact d.1.1.1.1.2
 ·refine ⟨pass_own _ h1.facts.1 h1.facts.2.1,?_⟩
  simp only [List.cons_append,headIs,beq_eq_false_iff_ne]
  intro e;apply h2;apply UInt8.toNat_inj.1;show c.toNat=93;omega
mutual
theorem rd_pr (pf:By→Nat) (ff:Nat→By) (R:Nat→Prop):∀ (p:PO) (n:Nat) (r:By),okR ff R p→lvP p≤n→Fol r→∃ r',rdV pf n (prP ff p ++ r) false=some (valP (mapR (fun x=>pf (ff x)) p),r',false)∧(r'=r∨r'=32::r)
 | .null,n,r,h,hn,hr=>by
  obtain ⟨n,rfl⟩:∃ m,n=m + 1:=⟨n - 1,by simp [lvP] at hn;omega⟩
  obtain ⟨w1,w2,w3⟩:=word_app hr.1 wNull (by decide)
  refine ⟨r,?_,.inl rfl⟩
  simp only [prP]
  rw [rdV_word (by decide) (by decide)]
  simp only [rdNum,w1,w2,w3]
  rw [if_neg (by decide),if_neg (by decide),if_pos trivial]
  rfl
 | .bool b,n,r,h,hn,hr=>by
  obtain ⟨n,rfl⟩:∃ m,n=m + 1:=⟨n - 1,by simp [lvP] at hn;omega⟩
  refine ⟨r,?_,.inl rfl⟩
  cases b with
  | true =>
   obtain ⟨w1,w2,w3⟩:=word_app hr.1 wTrue (by decide)
   simp only [prP,if_true]
   rw [rdV_word (by decide) (by decide)]
   simp only [rdNum,w1,w2,w3,if_true]
   rfl
  | false =>
   obtain ⟨w1,w2,w3⟩:=word_app hr.1 wFalse (by decide)
   simp only [prP,Bool.false_eq_true,if_false]
   rw [rdV_word (by decide) (by decide)]
   simp only [rdNum,w1,w2,w3]
   rw [if_neg (by decide),if_pos trivial]
   rfl
 | .int k,n,r,h,hn,hr=>by
  obtain ⟨n,rfl⟩:∃ m,n=m + 1:=⟨n - 1,by simp [lvP] at hn;omega⟩
  simp only [okR] at h
  obtain ⟨w1,w2,w3⟩:=word_app hr.1 (Lib.itoa k) (itoa_reg k)
  refine ⟨r,?_,.inl rfl⟩
  simp only [prP]
  rw [rdV_word (itoa_reg k) (itoa_ne k)]
  have hx:∀ w:By,w=wTrue∨w=wFalse∨w=wNull→Lib.itoa k≠w:=fun w hw e=>by
   have hs:=itoa_num pf k h.1 h.2
   rw [e] at hs
   rcases hw with rfl | rfl | rfl
   ·simp [numF,numStrip,wTrue,numScan,isDig] at hs
   ·simp [numF,numStrip,wFalse,numScan,isDig] at hs
   ·simp [numF,numStrip,wNull,numScan,isDig] at hs
  simp only [rdNum,w1,w2,w3,itoa_num pf k h.1 h.2]
  rw [if_neg (hx _ (.inl rfl)),if_neg (hx _ (.inr (.inl rfl))),if_neg (hx _ (.inr (.inr rfl))),if_neg (by simp),if_neg (by simp)]
  exact ref_int k _ hr.2
 | .real x,n,r,h,hn,hr=>by
  obtain ⟨n,rfl⟩:∃ m,n=m + 1:=⟨n - 1,by simp [lvP] at hn;omega⟩
  simp only [okR] at h
  have hk:=real_chars h.1
  have hreg:∀ c∈ff x,isReg (c.toNat:Int)=true∧isPlain (c.toNat:Int)=true:=fun c hc=>⟨(hk.2 c hc).1,(hk.2 c hc).2.1⟩
  obtain ⟨w1,w2,w3⟩:=word_app hr.1 (ff x) hreg
  refine ⟨r,?_,.inl rfl⟩
  simp only [prP]
  rw [rdV_word hreg hk.1]
  have hx:∀ w:By,w=wTrue∨w=wFalse∨w=wNull→ff x≠w:=fun w hw e=>by
   rw [e] at hk
   rcases hw with rfl | rfl | rfl
   ·exact (hk.2 116 (by decide)).2.2.2.1 rfl
   ·exact (hk.2 102 (by decide)).2.2.2.2.1 rfl
   ·exact (hk.2 110 (by decide)).2.2.2.2.2 rfl
  simp only [rdNum,w1,w2,w3,real_num pf h.1]
  rw [if_neg (hx _ (.inl rfl)),if_neg (hx _ (.inr (.inl rfl))),if_neg (hx _ (.inr (.inr rfl))),if_neg (by simp),if_pos (by simp)]
  rfl
 | .ref k g,n,r,h,hn,hr=>by
  obtain ⟨n,rfl⟩:∃ m,n=m + 1:=⟨n - 1,by simp [lvP] at hn;omega⟩
  simp only [okR] at h
  obtain ⟨w1,w2,w3⟩:=word_app (endw_sp (Lib.itoa g ++ 32::82::r)) (Lib.itoa k) (itoa_reg k)
  refine ⟨r,?_,.inl rfl⟩
  have e:prP ff (.ref k g) ++ r=Lib.itoa k ++ 32::(Lib.itoa g ++ 32::82::r):=by simp [prP]
  rw [e,rdV_word (itoa_reg k) (itoa_ne k)]
  have hnum:=itoa_num pf k (by omega) (by omega)
  have hx:∀ w:By,w=wTrue∨w=wFalse∨w=wNull→Lib.itoa k≠w:=fun w hw e=>by
   have hs:=hnum
   rw [e] at hs
   rcases hw with rfl | rfl | rfl
   ·simp [numF,numStrip,wTrue,numScan,isDig] at hs
   ·simp [numF,numStrip,wFalse,numScan,isDig] at hs
   ·simp [numF,numStrip,wNull,numScan,isDig] at hs
  simp only [rdNum,w1,w2,w3,hnum]
  rw [if_neg (hx _ (.inl rfl)),if_neg (hx _ (.inr (.inl rfl))),if_neg (hx _ (.inr (.inr rfl))),if_neg (by simp),if_neg (by simp)]
  exact ref_ref k g h.1 h.2.2.1 h.2.2.2 hr.1
 | .lit s,n,r,h,hn,hr=>by
  obtain ⟨n,rfl⟩:∃ m,n=m + 1:=⟨n - 1,by simp [lvP] at hn;omega⟩
  simp only [okR] at h
  obtain ⟨t,ht⟩:=h
  refine ⟨r,?_,.inl rfl⟩
  have e:prP ff (.lit s) ++ r=40::(s ++ 41::r):=by simp [prP]
  have h1:=lit_read ht r
  have h2:litT s=t:=by unfold litT;rw [ht]
  rw [e]
  simp only [rdV,pass_own false (show isWhite ((40:UInt8).toNat:Int)=false by decide) (by decide)]
  rw [if_pos (by decide),h1]
  simp only [mapR,valP,h2]
  rfl
 | .hexl s,n,r,h,hn,hr=>by
  obtain ⟨n,rfl⟩:∃ m,n=m + 1:=⟨n - 1,by simp [lvP] at hn;omega⟩
  simp only [okR] at h
  refine ⟨r,?_,.inl rfl⟩
  have e:prP ff (.hexl s) ++ r=60::(s ++ 62::r):=by simp [prP]
  have h1:=hex_read h r
  have h2:is2 (60::(s ++ 62::r)) 60=false:=by
   cases s with
   | nil=>rfl
   | cons c s =>
    have:=hexVal_char (h c (by simp))
    simp [is2];omega
  rw [e]
  simp only [rdV,pass_own false (show isWhite ((60:UInt8).toNat:Int)=false by decide) (by decide),h2,h1]
  rw [if_neg (by decide),if_neg (by decide),if_pos (by decide),if_pos (by decide)]
  rfl
 | .name s,n,r,h,hn,hr=>by
  obtain ⟨n,rfl⟩:∃ m,n=m + 1:=⟨n - 1,by simp [lvP] at hn;omega⟩
  simp only [okR] at h
  by_cases hs:s=[]
  ·subst hs
   refine ⟨32::r,?_,.inr rfl⟩
   have e:prP ff (.name []) ++ r=47::32::r:=by simp [prP]
   obtain ⟨w1,w2,w3⟩:=word_app (endw_sp r) [] (by simp)
   simp only [List.nil_append] at w1 w2 w3
   rw [e]
   simp only [rdV,pass_own false (show isWhite ((47:UInt8).toNat:Int)=false by decide) (by decide),w1,w2,w3,is2]
   rfl
  ·refine ⟨r,?_,.inl rfl⟩
   have e:prP ff (.name s) ++ r=47::(encN s ++ r):=by simp [prP,hs]
   obtain ⟨w1,w2,w3⟩:=word_app hr.1 (encN s) (encN_chars s)
   have hb:=nameB_enc s [] h
   have h2:is2 (47::(encN s ++ r)) 60=false:=by
    cases hl:encN s ++ r<;>simp [is2]
   rw [e]
   simp only [rdV,pass_own false (show isWhite ((47:UInt8).toNat:Int)=false by decide) (by decide),w1,w2,w3,h2,hb]
   rw [if_neg (by decide),if_neg (by decide),if_neg (by decide),if_pos (by decide)]
   rfl
 | .arr kids,n,r,h,hn,hr=>by
  obtain ⟨n,rfl⟩:∃ m,n=m + 1:=⟨n - 1,by simp [lvP] at hn;omega⟩
  simp only [okR] at h
  simp only [lvP] at hn
  refine ⟨r,?_,.inl rfl⟩
  have e:prP ff (.arr kids) ++ r=91::(prAs ff true kids ++ 93::r):=by simp [prP]
  have h2:is2 (91::(prAs ff true kids ++ 93::r)) 60=false:=by
   cases hl:prAs ff true kids ++ 93::r<;>simp [is2]
  have hl:=as_len ff R kids true h
  have h3:=rd_as pf ff R kids n true (prAs ff true kids ++ 93::r).length r [] h (by omega) (by simp;omega)
  rw [e]
  simp only [rdV,pass_own false (show isWhite ((91:UInt8).toNat:Int)=false by decide) (by decide),h2,h3]
  rw [if_neg (by decide),if_neg (by decide),if_neg (by decide),if_neg (by decide),if_pos (by decide)]
  simp [mapR,valP]
 | .dict keys kids,n,r,h,hn,hr=>by
  obtain ⟨n,rfl⟩:∃ m,n=m + 1:=⟨n - 1,by simp [lvP] at hn;omega⟩
  simp only [okR] at h
  simp only [lvP] at hn
  obtain ⟨g1,g2,g3,g4⟩:=h
  refine ⟨r,?_,.inl rfl⟩
  have e:prP ff (.dict keys kids) ++ r=60::60::(prDs ff keys kids ++ 62::62::r):=by simp [prP]
  have hl:=ds_len ff keys kids g1
  have h3:=rd_ds pf ff R kids n keys (prDs ff keys kids ++ 62::62::r).length r [] [] g1 g3 (by simpa using g2) g4 (by omega) (by simp;omega)
  rw [e]
  simp only [rdV,pass_own false (show isWhite ((60:UInt8).toNat:Int)=false by decide) (by decide),List.tail_cons,h3]
  rw [if_neg (by decide),if_pos (by simp [is2])]
  simp [mapR,valP]
theorem rd_as (pf:By→Nat) (ff:Nat→By) (R:Nat→Prop):∀ (ps:List PO) (n:Nat) (b:Bool) (m:Nat) (r:By) (acc:List PV),okRs ff R ps→lvPs ps≤n→ps.length < m →
  rdArr (rdV pf n) m (prAs ff b ps ++ 93::r) false acc=some (acc ++ valPs (mapRs (fun x=>pf (ff x)) ps),r,false)
 | [],n,b,m,r,acc,h,hn,hm=>by
  obtain ⟨m,rfl⟩:∃ k,m=k + 1:=⟨m - 1,by simp at hm;omega⟩
  simp only [prAs,List.nil_append,rdArr,pass_own false (show isWhite ((93:UInt8).toNat:Int)=false by decide) (by decide)]
  rw [if_pos (show headIs (93::r) (· == 93)=true from rfl)]
  simp [mapRs,valPs]
 | p :: ps, n, b, m, r, acc, h, hn, hm => by
  simp only [okRs] at h
  simp only [lvPs] at hn
  obtain ⟨m,rfl⟩:∃ k,m=k + 1:=⟨m - 1,by simp at hm;omega⟩
  have hsp:rdArr (rdV pf n) (m + 1) (prAs ff b (p::ps) ++ 93::r) false acc=rdArr (rdV pf n) (m + 1) (prP ff p ++ (prAs ff false ps ++ 93::r)) false acc:=by
   simp only [prAs,List.append_assoc]
   cases hb:(!b && sepA p) with
   | true=>exact rdArr_sp
   | false=>rfl
  rw [hsp]
  obtain ⟨e1,e2⟩:=pr_pass ff R p h.1 (prAs ff false ps ++ 93::r) false
  obtain ⟨r',h1,h2⟩:=rd_pr pf ff R p n (prAs ff false ps ++ 93::r) h.1 (by omega) (as_fol ff R ps h.2 r)
  have h3:=rd_as pf ff R ps n false m r (acc ++ [valP (mapR (fun x=>pf (ff x)) p)]) h.2 (by omega) (by simp at hm;omega)
  have h4:rdArr (rdV pf n) m r' false (acc ++ [valP (mapR (fun x=>pf (ff x)) p)])=some (acc ++ [valP (mapR (fun x=>pf (ff x)) p)] ++ valPs (mapRs (fun x=>pf (ff x)) ps),r,false):=by
   rcases h2 with rfl | rfl
   ·exact h3
   ·rw [rdArr_sp];exact h3
  simp only [rdArr,e1,e2,h1,h4,Bool.false_eq_true,if_false]
  simp [mapRs,valPs]
theorem rd_ds (pf:By→Nat) (ff:Nat→By) (R:Nat→Prop):∀ (ps:List PO) (n:Nat) (keys:List By) (m:Nat) (r:By) (ks:List By) (acc:List PV),keys.length=ps.length→(∀ k∈keys,35∉k∧∀ c∈k,(c.toNat:Int)≠0)→(ks ++ keys).Nodup→okRs ff R ps→lvPs ps≤n→ps.length < m →
  rdDict (rdV pf n) m (prDs ff keys ps ++ 62::62::r) false ks acc=some ((ks ++ keys,acc ++ valPs (mapRs (fun x=>pf (ff x)) ps)),r,false)
 | [],n,keys,m,r,ks,acc,hl,hk,hnd,h,hn,hm=>by
  obtain ⟨m,rfl⟩:∃ k,m=k + 1:=⟨m - 1,by simp at hm;omega⟩
  obtain rfl:keys=[]:=List.eq_nil_of_length_eq_zero (by simpa using hl)
  simp only [prDs,List.nil_append,rdDict,pass_own false (show isWhite ((62:UInt8).toNat:Int)=false by decide) (by decide)]
  rw [if_pos (by simp [is2])]
  simp [mapRs,valPs]
 | p::ps,n,[],m,r,ks,acc,hl,hk,hnd,h,hn,hm=>by simp at hl
 | p :: ps, n, k :: keys, m, r, ks, acc, hl, hk, hnd, h, hn, hm => by
  simp only [okRs] at h
  simp only [lvPs] at hn
  obtain ⟨m,rfl⟩:∃ k,m=k + 1:=⟨m - 1,by simp at hm;omega⟩
  have e:prDs ff (k::keys) (p::ps) ++ 62::62::r=47::(encN k ++ (spc (sepD p) ++ (prP ff p ++ (prDs ff keys ps ++ 62::62::r)))):=by simp [prDs]
  have hF:=ds_fol ff keys ps r
  generalize hT:prDs ff keys ps ++ 62::62::r=T at *
  obtain ⟨w1,w2,w3⟩:=word_app (spD_fol h.1 T) (encN k) (encN_chars k)
  obtain ⟨r',h1,h2⟩:=rd_pr pf ff R p n T h.1 (by omega) hF
  have hv:rdV pf n (spc (sepD p) ++ (prP ff p ++ T)) false=some (valP (mapR (fun x=>pf (ff x)) p),r',false):=by
   cases hs:sepD p with
   | true=>exact rdV_sp.trans h1
   | false=>exact h1
  have hnd2:(ks ++ [k] ++ keys).Nodup:=by simpa using hnd
  have h3:=rd_ds pf ff R ps n keys m r (ks ++ [k]) (acc ++ [valP (mapR (fun x=>pf (ff x)) p)]) (by simpa using hl) (fun q hq=>hk q (by simp [hq])) hnd2 h.2 (by omega) (by simp at hm;omega)
  rw [hT] at h3
  have h4:rdDict (rdV pf n) m r' false (ks ++ [k]) (acc ++ [valP (mapR (fun x=>pf (ff x)) p)])=some ((ks ++ [k] ++ keys,acc ++ [valP (mapR (fun x=>pf (ff x)) p)] ++ valPs (mapRs (fun x=>pf (ff x)) ps)),r,false):=by
   rcases h2 with rfl | rfl
   ·exact h3
   ·rw [rdDict_sp];exact h3
  have hk1:=hk k (by simp)
  have hkn:k∉ks:=by
   intro hin
   rw [List.nodup_append] at hnd
   exact hnd.2.2 k hin k (by simp) rfl
  have hb:=nameB_enc k [] hk1.2
  have hi:is2 (47::(encN k ++ (spc (sepD p) ++ (prP ff p ++ T)))) 62=false:=by
   cases hl:encN k ++ (spc (sepD p) ++ (prP ff p ++ T))<;>simp [is2]
  rw [e]
  simp only [rdDict,pass_own false (show isWhite ((47:UInt8).toNat:Int)=false by decide) (by decide),hi,List.tail_cons,w1,w2,w3,hb,List.nil_append]
  rw [if_neg (by simp),if_pos (show headIs (47::(encN k ++ (spc (sepD p) ++ (prP ff p ++ T)))) (· == 47)=true from rfl),if_neg (by simp [hk1.1,hkn])]
  simp only [hv,h4]
  simp [mapRs,valPs]
end
mutual
theorem same_map (ff:Nat→By) (R:Nat→Prop) (eqv:Nat→Nat→Prop) (f:Nat→Nat) (hR:∀ x,R x→eqv (f x) x):∀ (p:PO) (n:Nat),okR ff R p→lvP p≤n→SameN eqv n (valP (mapR f p)) (valP p)
 | .null,n,h,hn=>by
  obtain ⟨n,rfl⟩:∃ m,n=m + 1:=⟨n - 1,by simp [lvP] at hn;omega⟩
  simp [mapR,valP,SameN]
 | .bool b,n,h,hn=>by
  obtain ⟨n,rfl⟩:∃ m,n=m + 1:=⟨n - 1,by simp [lvP] at hn;omega⟩
  simp [mapR,valP,SameN]
 | .int b,n,h,hn=>by
  obtain ⟨n,rfl⟩:∃ m,n=m + 1:=⟨n - 1,by simp [lvP] at hn;omega⟩
  simp [mapR,valP,SameN]
 | .real x,n,h,hn=>by
  obtain ⟨n,rfl⟩:∃ m,n=m + 1:=⟨n - 1,by simp [lvP] at hn;omega⟩
  simp only [okR] at h
  simp only [mapR,valP,SameN]
  exact hR x h.2
 | .lit b,n,h,hn=>by
  obtain ⟨n,rfl⟩:∃ m,n=m + 1:=⟨n - 1,by simp [lvP] at hn;omega⟩
  simp [mapR,valP,SameN]
 | .hexl b,n,h,hn=>by
  obtain ⟨n,rfl⟩:∃ m,n=m + 1:=⟨n - 1,by simp [lvP] at hn;omega⟩
  simp [mapR,valP,SameN]
 | .name b,n,h,hn=>by
  obtain ⟨n,rfl⟩:∃ m,n=m + 1:=⟨n - 1,by simp [lvP] at hn;omega⟩
  simp [mapR,valP,SameN]
 | .ref b c,n,h,hn=>by
  obtain ⟨n,rfl⟩:∃ m,n=m + 1:=⟨n - 1,by simp [lvP] at hn;omega⟩
  simp [mapR,valP,SameN]
 | .arr kids,n,h,hn=>by
  obtain ⟨n,rfl⟩:∃ m,n=m + 1:=⟨n - 1,by simp [lvP] at hn;omega⟩
  simp only [okR] at h
  simp only [lvP] at hn
  simp only [mapR,valP,SameN]
  obtain ⟨h1,h2,_⟩:=sames_map ff R eqv f hR kids n h (by omega)
  exact ⟨h1,h2⟩
 | .dict keys kids,n,h,hn=>by
  obtain ⟨n,rfl⟩:∃ m,n=m + 1:=⟨n - 1,by simp [lvP] at hn;omega⟩
  simp only [okR] at h
  simp only [lvP] at hn
  obtain ⟨g1,g2,g3,g4⟩:=h
  simp only [mapR,valP,SameN]
  obtain ⟨h1,h2,h3⟩:=sames_map ff R eqv f hR kids n g4 (by omega)
  have hl:(valPs kids).length=kids.length:=by rw [valPs_map];simp
  refine ⟨by omega,by omega,?_,fun i k a hk ha hna=>?_⟩
  ·unfold nnz
   have e:∀ (l m:List PV),l.length=m.length→(∀ (i:Nat) a b,l[i]?=some a→m[i]?=some b→a.isNull=b.isNull)→(l.filter fun x=>!x.isNull).length=(m.filter fun x=>!x.isNull).length:=by
    intro l
    induction l with
    | nil=>intro m hm _;cases m with | nil=>rfl | cons _ _=>simp at hm
    | cons a l ih =>
     intro m hm hh
     cases m with
     | nil=>simp at hm
     | cons b m =>
      have h0:=hh 0 a b (by simp) (by simp)
      have:=ih m (by simpa using hm) (fun i a b ha hb=>hh (i + 1) a b (by simpa using ha) (by simpa using hb))
      simp only [List.filter_cons,h0]
      split<;>simp [this]
   exact e _ _ h1 h3
  ·have hi:=(List.getElem?_eq_some_iff.1 ha).1
   have hb:(valPs kids)[i]?=some ((valPs kids)[i]'(by omega)):=List.getElem?_eq_getElem _
   refine ⟨i,_,hk,nodup_first g2 hk,hb,?_,h2 i _ _ ha hb⟩
   rw [←h3 i _ _ ha hb];exact hna
theorem sames_map (ff:Nat→By) (R:Nat→Prop) (eqv:Nat→Nat→Prop) (f:Nat→Nat) (hR:∀ x,R x→eqv (f x) x):∀ (ps:List PO) (n:Nat),okRs ff R ps→lvPs ps≤n→(valPs (mapRs f ps)).length=(valPs ps).length∧(∀ (i:Nat) a b,(valPs (mapRs f ps))[i]?=some a→(valPs ps)[i]?=some b→SameN eqv n a b)∧∀ (i:Nat) a b,(valPs (mapRs f ps))[i]?=some a→(valPs ps)[i]?=some b→a.isNull=b.isNull
 | [],n,h,hn=>by simp [mapRs,valPs]
 | p :: ps, n, h, hn => by
  simp only [okRs] at h
  simp only [lvPs] at hn
  have h1:=same_map ff R eqv f hR p n h.1 (by omega)
  obtain ⟨h2,h3,h4⟩:=sames_map ff R eqv f hR ps n h.2 (by omega)
  have hnull:(valP (mapR f p)).isNull=(valP p).isNull:=by cases p<;>rfl
  simp only [mapRs,valPs]
  refine ⟨by simp [h2],fun i a b ha hb=>?_,fun i a b ha hb=>?_⟩
  ·cases i with
   | zero=>simp at ha hb;subst ha;subst hb;exact h1
   | succ i=>exact h3 i a b (by simpa using ha) (by simpa using hb)
  ·cases i with
   | zero=>simp at ha hb;subst ha;subst hb;exact hnull
   | succ i=>exact h4 i a b (by simpa using ha) (by simpa using hb)
end
end Go.Proofs.YtfkecmlmnhbmoaaGreatDoor
