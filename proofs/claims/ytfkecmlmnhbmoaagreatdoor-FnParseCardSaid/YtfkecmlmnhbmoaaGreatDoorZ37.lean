/- FnParse: the texts F20 G26 G27 of the workbench, laid together. -/
import Derived.Test.YtfkecmlmnhbmoaaGreatDoorProg
import Derived.WalkKit
import Derived.WalkLawsBesides
import Derived.WalkSpells
import Derived.BigQuiet
import Derived.BigRegion
import Derived.Deep.QuietTactic
import Derived.Deep.RegionHeld3
import Derived.Deep.LoopGhost
import Derived.StillTailTactics
import Derived.Lib.Hide
import Derived.Laws.EntriesVeiled
import Derived.Test.YtfkecmlmnhbmoaaGreatDoorZ36
set_option linter.unusedVariables false
set_option linter.unusedSimpArgs false
namespace Go.Proofs.YtfkecmlmnhbmoaaGreatDoor
open Go Go.RowKit
theorem zc190:Tryz.zeroCells190=(decCells (List.replicate 800 0) 0 0 false false).toArray:=by kernel_rfl
theorem zeroDec (w:World):DecAt (w.alloc (.cells Tryz.zeroCells190 190 (0,0))) w.heap.size (List.replicate 800 0) 0 0 false false :=
  ⟨List.length_replicate,by rw [zc190];exact heap_alloc_new _ _⟩
set_option maxRecDepth 100000 in
set_option maxHeartbeats 40000000 in
theorem a64_long (W0:World) (hF:FInit3 W0) (l:By) (hok:numOk l) (s:ByteArray) (hs:s.data.toList=l) (hs2:s.size≤1000) (hM:¬(rfF (numStrip l) 0 0 0 false).1=0) (htr:(rfF (numStrip l) 0 0 0 false).2.2.2=true):∃ x,nnF x∧A64 W0 l s x:=by
  have hopt:=hF.opt
  have hfb:=run_frombits
  obtain ⟨M,nd,dp,tr,hR,hM19,hdp1,hdp2,hnd60,hndp,hM0,htr20⟩:=rf_facts hok
  obtain ⟨ng,hng⟩:∃ ng,headIs l (· == 45)=ng:=⟨_,rfl⟩
  have hrf:=fun w=>rf_any w s l hs hok hs2
  have hsp:=fun w=>special_any w s l hs hok hs2
  unfold rfRet at hrf
  rw [hR] at hM
  simp only at hM
  simp only [hR,hng,if_neg hM] at hrf
  obtain ⟨p,hp⟩:∃ p,p=dp - (min nd 19:Nat):=⟨_,rfl⟩
  rw [←hp] at hrf
  have hp1:-100≤p:=by omega
  have hp2:p≤20:=by omega
  have hMb:((M:Int) == 0)=false:=by simp;omega
  have hM9:M < 18446744073709551616:=by omega
  have y30:∀ (a b c:Value),([a,b,c]:List Value)[0]?=some a:=fun _ _ _=>rfl
  have y31:∀ (a b c:Value),([a,b,c]:List Value)[1]?=some b:=fun _ _ _=>rfl
  have y32:∀ (a b c:Value),([a,b,c]:List Value)[2]?=some c:=fun _ _ _=>rfl
  have y70:∀ (a b c d e f g:Value),([a,b,c,d,e,f,g]:List Value)[0]?=some a:=fun _ _ _ _ _ _ _=>rfl
  have y71:∀ (a b c d e f g:Value),([a,b,c,d,e,f,g]:List Value)[1]?=some b:=fun _ _ _ _ _ _ _=>rfl
  have y72:∀ (a b c d e f g:Value),([a,b,c,d,e,f,g]:List Value)[2]?=some c:=fun _ _ _ _ _ _ _=>rfl
  have y73:∀ (a b c d e f g:Value),([a,b,c,d,e,f,g]:List Value)[3]?=some d:=fun _ _ _ _ _ _ _=>rfl
  have y74:∀ (a b c d e f g:Value),([a,b,c,d,e,f,g]:List Value)[4]?=some e:=fun _ _ _ _ _ _ _=>rfl
  have y75:∀ (a b c d e f g:Value),([a,b,c,d,e,f,g]:List Value)[5]?=some f:=fun _ _ _ _ _ _ _=>rfl
  have y76:∀ (a b c d e f g:Value),([a,b,c,d,e,f,g]:List Value)[6]?=some g:=fun _ _ _ _ _ _ _=>rfl
  have sh0:∀ w:World,(Op.shift BinOp.shl IntKind.u64 0 IntKind.u64 63).run Tryz.prog w=.ok (.int .u64 0) w:=fun _=>by kernel_rfl
  obtain ⟨S63,hS63⟩:∃ S63:Int,S63=9223372036854775808:=⟨_,rfl⟩
  obtain ⟨o1,ho1⟩:∃ o1:Int,o1=1:=⟨_,rfl⟩
  have sh1:∀ w:World,(Op.shift BinOp.shl IntKind.u64 o1 IntKind.u64 63).run Tryz.prog w=.ok (.int .u64 S63) w:=fun _=>by rw [hS63,ho1];kernel_rfl
  have sh2:IntKind.u64.wrap (o1 * 9223372036854775808)=S63:=by rw [ho1,hS63];decide
  have Ho1:=Lib.hid ho1;clear ho1
  have hS0:0≤S63:=by omega
  have hS1:S63≤18446744073709551615:=by omega
  have HS63:=Lib.hid hS63;clear hS63
  rw [hR] at htr
  simp only at htr
  subst htr
  have hnd20:=htr20 rfl
  obtain ⟨N,dpN',hst⟩:∃ N dpN',stF (numStrip l) 0 0=(N,dpN'):=⟨_,_,rfl⟩
  have hset:=fun (w:World) (b:Nat) (A:By) (hD:DecAt w b A 0 0 false false)=>set_any w b A s l hD hs hok hs2
  rw [hst,hng] at hset
  have hrs:numD N=nd∧dpN'=dp:=by
    obtain ⟨pre,c,l1,d,a,_,_,hst1,hsc,_⟩:=numOk_parts hok
    have h:=rf_st (c::l1) 0 0 0 0 false 0 0 0 _ hsc numD_zero
    rw [←hst1,hR,hst] at h
    exact ⟨h.1.symm,h.2.symm⟩
  obtain ⟨hnN,rfl⟩:=hrs
  have hN0:N≠0:=by intro e;rw [e,numD_zero] at hnN;omega
  have hfbr:=fun (w:World) (hE:Env W0 w) (b:Nat) (hb:W0.heap.size≤b) (hD:DecN w b N dpN' ng false)=>fb_any W0 w hF.toFInit hE b N dpN' ng hb hD hN0 (by omega) (by omega) (by omega) (by omega)
  obtain ⟨xs,hxs⟩:∃ x:Nat,x=(fbRes N dpN' ng).toNat:=⟨_,rfl⟩
  obtain ⟨fr,hfr⟩:∃ fr,fr=fbRes N dpN' ng:=⟨_,rfl⟩
  have Hfn:=Lib.hid (show nnF xs by rw [hxs];exact fbRes_nn ng hN0 (by omega) (by omega))
  rw [←hfr] at hxs hfbr
  have hfb9:∀ w:World,(callFunc 152 #[.int .u64 fr]).run Tryz.prog w=.ok (.value (.float .f64 xs)) w:=fun w=>by rw [hxs];exact hfb fr w
  obtain ⟨M1,hM1e⟩:∃ M1,M1=M + 1:=⟨_,rfl⟩
  have hM9':M1 < 18446744073709551616:=by omega
  have hM1:(M:Int) + 1=(M1:Int):=by omega
  have HM1e:=Lib.hid hM1e;clear hM1e
  have Hrf:=Lib.hid hrf;clear hrf
  have Hsp:=Lib.hid hsp;clear hsp
  have Hng:=Lib.hid hng;clear hng
  have HR:=Lib.hid hR;clear hR
  have Hs:=Lib.hid hs;clear hs
  have Hp:=Lib.hid hp;clear hp
  have HM:=Lib.hid hM;clear hM
  have Hset:=Lib.hid hset;clear hset
  have Hfbr:=Lib.hid hfbr;clear hfbr
  have Hst:=Lib.hid hst;clear hst
  have HnN:=Lib.hid hnN;clear hnN
  have Hxs:=Lib.hid hxs;clear hxs
  have Hfr:=Lib.hid hfr;clear hfr
  clear hok hfb hM0 htr20 hM19 hndp hnd20
  cases ng
  · obtain ⟨xp,hpn,hpf⟩:=pf64_ex W0 hF.toFInit2 M hM9 p hp1 hp2 0 (.inl rfl)
    obtain ⟨xq,hqn,hqf⟩:=pf64_ex W0 hF.toFInit2 M1 hM9' p hp1 hp2 0 (.inl rfl)
    have Hpf:=Lib.hid hpf;clear hpf
    have Hqf:=Lib.hid hqf;clear hqf
    rcases Bool.eq_false_or_eq_true (FloatKind.f64.format.order xp xq == some Ordering.eq) with heq | heq
    · refine ⟨xp,hpn,fun w hE=>?_⟩
      clear hpn hqn
      have e0:=hE.cell hopt
      go_enter Tryz.func107,Tryz.ntmps107
      go_wp2_with fail
      refine (Hsp.out _).mono ?_
      rintro e w1 ⟨rfl,hw⟩
      subst w1
      go_wp2_with fail
      refine (Hrf.out _).mono ?_
      rintro e w1 ⟨rfl,hw⟩
      subst w1
      go_wp2_with fail
      refine (b2_f _).mono ?_
      rintro e w1 ⟨rfl,hw⟩
      subst w1
      go_wp2_with fail
      refine (Hpf.out _ hE).mono ?_
      rintro e w1 ⟨rfl,hg⟩
      have HE1:=Lib.hid (hE.grown0 hg)
      have Hg:=Lib.hid hg;clear hg
      go_wp2_with fail
      refine (Hqf.out _ HE1.out).mono ?_
      rintro e w2 ⟨rfl,hg2⟩
      have HE2:=Lib.hid (HE1.out.grown0 hg2)
      have Hg2:=Lib.hid hg2;clear hg2
      go_wp2_with fail
      go_ret3
      exact ⟨rfl,Hg.out.trans Hg2.out⟩
    · refine ⟨xs,Hfn.out,fun w hE=>?_⟩
      clear hpn hqn
      have e0:=hE.cell hopt
      go_enter Tryz.func107,Tryz.ntmps107
      go_wp2_with fail
      refine (Hsp.out _).mono ?_
      rintro e w1 ⟨rfl,hw⟩
      subst w1
      go_wp2_with fail
      refine (Hrf.out _).mono ?_
      rintro e w1 ⟨rfl,hw⟩
      subst w1
      go_wp2_with fail
      refine (b2_f _).mono ?_
      rintro e w1 ⟨rfl,hw⟩
      subst w1
      go_wp2_with fail
      refine (Hpf.out _ hE).mono ?_
      rintro e w1 ⟨rfl,hg⟩
      have HE1:=Lib.hid (hE.grown0 hg)
      have Hg:=Lib.hid hg;clear hg
      go_wp2_with fail
      refine (Hqf.out _ HE1.out).mono ?_
      rintro e w2 ⟨rfl,hg2⟩
      have HE2:=Lib.hid (HE1.out.grown0 hg2)
      have Hg2:=Lib.hid hg2;clear hg2
      go_wp2_with fail
      refine (Hset.out _ w2.heap.size _ (by exact zeroDec w2)).mono ?_
      rintro e w3 ⟨rfl,hD3,hg3⟩
      have HG3:=Lib.hid (show w.grownBy w3 none from gr_noneThen (Hg.out.trans Hg2.out) ((gr_alloc (World.grownBy.refl w2 (some w2.heap.size)) _).trans hg3) (fun j hj=>by injection hj with hj;have:=(Hg.out.trans Hg2.out).size;omega))
      have HE3:=Lib.hid (hE.grown0 HG3.out)
      have HD3:=Lib.hid hD3;clear hD3
      have Hg3:=Lib.hid hg3;clear hg3
      go_wp2_with fail
      refine (Hfbr.out _ HE3.out w2.heap.size HE2.out.1 (by exact HD3.out)).mono ?_
      rintro e w4 ⟨rfl,hg4⟩
      have Hg4:=Lib.hid hg4;clear hg4
      go_wp2_with fail
      go_ret3
      exact ⟨rfl,gr_noneThen HG3.out Hg4.out (fun j hj=>by injection hj with hj;have:=(Hg.out.trans Hg2.out).size;omega)⟩
  · obtain ⟨xp,hpn,hpf⟩:=pf64_ex W0 hF.toFInit2 M hM9 p hp1 hp2 S63 (.inr HS63.out)
    obtain ⟨xq,hqn,hqf⟩:=pf64_ex W0 hF.toFInit2 M1 hM9' p hp1 hp2 S63 (.inr HS63.out)
    have Hpf:=Lib.hid hpf;clear hpf
    have Hqf:=Lib.hid hqf;clear hqf
    rcases Bool.eq_false_or_eq_true (FloatKind.f64.format.order xp xq == some Ordering.eq) with heq | heq
    · refine ⟨xp,hpn,fun w hE=>?_⟩
      clear hpn hqn
      have e0:=hE.cell hopt
      go_enter Tryz.func107,Tryz.ntmps107
      go_wp2_with fail
      refine (Hsp.out _).mono ?_
      rintro e w1 ⟨rfl,hw⟩
      subst w1
      go_wp2_with fail
      refine (Hrf.out _).mono ?_
      rintro e w1 ⟨rfl,hw⟩
      subst w1
      go_wp2_with fail
      refine (b2_tv Ho1.out _).mono ?_
      rintro e w1 ⟨rfl,hw⟩
      subst w1
      go_wp2_with fail
      refine (Hpf.out _ hE).mono ?_
      rintro e w1 ⟨rfl,hg⟩
      have HE1:=Lib.hid (hE.grown0 hg)
      have Hg:=Lib.hid hg;clear hg
      go_wp2_with fail
      refine (Hqf.out _ HE1.out).mono ?_
      rintro e w2 ⟨rfl,hg2⟩
      have HE2:=Lib.hid (HE1.out.grown0 hg2)
      have Hg2:=Lib.hid hg2;clear hg2
      go_wp2_with fail
      go_ret3
      exact ⟨rfl,Hg.out.trans Hg2.out⟩
    · refine ⟨xs,Hfn.out,fun w hE=>?_⟩
      clear hpn hqn
      have e0:=hE.cell hopt
      go_enter Tryz.func107,Tryz.ntmps107
      go_wp2_with fail
      refine (Hsp.out _).mono ?_
      rintro e w1 ⟨rfl,hw⟩
      subst w1
      go_wp2_with fail
      refine (Hrf.out _).mono ?_
      rintro e w1 ⟨rfl,hw⟩
      subst w1
      go_wp2_with fail
      refine (b2_tv Ho1.out _).mono ?_
      rintro e w1 ⟨rfl,hw⟩
      subst w1
      go_wp2_with fail
      refine (Hpf.out _ hE).mono ?_
      rintro e w1 ⟨rfl,hg⟩
      have HE1:=Lib.hid (hE.grown0 hg)
      have Hg:=Lib.hid hg;clear hg
      go_wp2_with fail
      refine (Hqf.out _ HE1.out).mono ?_
      rintro e w2 ⟨rfl,hg2⟩
      have HE2:=Lib.hid (HE1.out.grown0 hg2)
      have Hg2:=Lib.hid hg2;clear hg2
      go_wp2_with fail
      refine (Hset.out _ w2.heap.size _ (by exact zeroDec w2)).mono ?_
      rintro e w3 ⟨rfl,hD3,hg3⟩
      have HG3:=Lib.hid (show w.grownBy w3 none from gr_noneThen (Hg.out.trans Hg2.out) ((gr_alloc (World.grownBy.refl w2 (some w2.heap.size)) _).trans hg3) (fun j hj=>by injection hj with hj;have:=(Hg.out.trans Hg2.out).size;omega))
      have HE3:=Lib.hid (hE.grown0 HG3.out)
      have HD3:=Lib.hid hD3;clear hD3
      have Hg3:=Lib.hid hg3;clear hg3
      go_wp2_with fail
      refine (Hfbr.out _ HE3.out w2.heap.size HE2.out.1 (by exact HD3.out)).mono ?_
      rintro e w4 ⟨rfl,hg4⟩
      have Hg4:=Lib.hid hg4;clear hg4
      go_wp2_with fail
      go_ret3
      exact ⟨rfl,gr_noneThen HG3.out Hg4.out (fun j hj=>by injection hj with hj;have:=(Hg.out.trans Hg2.out).size;omega)⟩
end Go.Proofs.YtfkecmlmnhbmoaaGreatDoor
namespace Go.Proofs.YtfkecmlmnhbmoaaGreatDoor
open Go Go.RowKit
open Go.Maps
theorem Tryz.info50':(Tryz.prog.info? 50).map (fun i=>(i.zero,i.size,i.bytes))=some (some .nilIface,1,16):=by kernel_rfl
def ArrPost (nn:Nat→Prop) (n:Nat) (w w':World) (b:Nat) (xs:List PV) (r:By) (e:Ending):Prop :=
  ∃ ps sl cells S ab,e=.returned (.tuple #[.pointer (some ⟨ab,0,none⟩),.nilIface])∧w'.heap[ab]?=some (.cells #[sl] 77 (0,0))∧SlAt S w' sl 1 ps.length cells∧ObjOs S w' ps cells∧(∀ k,S k→w.heap.size≤k∧k < w'.heap.size)∧Corr nn (n + 1) (.arr ps) (.arr xs)∧LineAt w' b r∧w.grownBy w' (some b)∧ps.length≤1000000
theorem hLl2lt {w w2 w4:World} {l:By} {r:Option Nat} (h:LineAt w2 (w.heap.size + 1) l) (hg:w2.grownBy w4 r):w.heap.size + 2≤w4.heap.size:=by
  have h1:=h.lt
  have h2:=hg.size
  omega
theorem cells1_set {w:World} {b:Nat} {v:Value} {t:TypeId} (h:w.heap[b]?=some (.cells #[v] t (0,0))) (u:Value):(w.setCell ⟨b,0,none⟩ u).heap[b]?=some (.cells #[u] t (0,0)):=by
  simp [World.setCell,Array.getElem?_modify,h]
structure ArrJ (pf:By→Nat) (nn:Nat→Prop) (n N:Nat) (w wr:World) (xs:List PV) (r:By) (g:Nat) (la:By) (m:Nat) (acc:List PV) (ps:List PO) (sl:Value) (cells:List Value) (S:Nat→Prop):Prop where
  line:LineAt wr (w.heap.size + 1) la
  pass:passM false la false=(la,false)
  rd:rdArr (rdV pf n) m la false acc=some (xs,r,false)
  arr:wr.heap[N + 1]?=some (.cells #[sl] 77 (0,0))
  row:wr.ownsRow (w.heap.size + 2) 50 1 sl ps.length cells
  own:sl.ownBlock≠some (N + 1)
  objs:ObjOs S wr ps cells
  bnd:∀ k,S k→w.heap.size + 2≤k∧k < wr.heap.size∧k≠N + 1∧sl.ownBlock≠some k
  corr:Corr nn (n + 1) (.arr ps) (.arr acc)
  grow:w.grownBy wr none
  len:ps.length + la.length≤100000
  meas:g=la.length
  box:wr.heap[w.heap.size]?=some (.cells #[] 99 (0,0))
  hN:w.heap.size + 2≤N
def ArK (pf:By→Nat) (nn:Nat→Prop) (n N:Nat) (w wr:World) (xs:List PV) (r:By) (g:Nat):Prop:=∃ la m acc ps so sn sc cells S,ArrJ pf nn n N w wr xs r g la m acc ps (.slice so sn sc) cells S
set_option maxRecDepth 100000 in
set_option maxHeartbeats 40000000 in
theorem arr99_any (pf:By→Nat) (nn:Nat→Prop) (W0 w:World) (hE:Env W0 w) (n:Nat) (hC:ObjC pf nn W0 n) (b:Nat) (l1:By) (hL:LineAt w b (91::l1)) (hl:l1.length≤100000) (hW0:W0.heap.size≤b) (lv:Int) (hlv:0≤lv) (hlv2:lv + n + 1≤100)
    (m:Nat) (xs:List PV) (r:By) (h:rdArr (rdV pf n) m l1 false []=some (xs,r,false)) :
    Calls Tryz.prog 99 #[.agg #[],.pointer (some ⟨b,0,none⟩),.int .i64 lv,.int .i64 100,.bool false] w fun e w'=>ArrPost nn n w w' b xs r e:=by
  obtain ⟨c0,f0⟩:=hL.cell
  have hbw:=hL.lt
  obtain ⟨m',la,hm,hp,hcs⟩:=rdArr_inv (rdV_odd pf n) h
  have h3:la≠[]∧∀ c∈la.head?,isPlain (c.toNat:Int)=true:=by
    rcases hcs with ⟨t,rfl,_⟩ | ⟨x4,l5,_,hv,_⟩
    · exact ⟨by simp,fun c hc=>by simp at hc;subst hc;decide⟩
    · exact rdV_plain (passM_fix hp) hv
  have h3l:=passM_len false l1 false
  rw [hp] at h3l
  have hd:=(rdArr_pass hp).trans h
  have hpre:=fun w=>prefix_any (91::l1) [91] true (by simp [List.isPrefixOf]) w
  have hfwd:=fun w=>fwd_any (91::l1) 1 w
  simp only [List.drop_succ_cons,List.drop_zero] at hfwd
  have ecs:(⟨#[91]⟩:ByteArray)=bs [91]:=rfl
  have ecs2:(⟨#[93]⟩:ByteArray)=bs [93]:=rfl
  obtain ⟨z,hz⟩:∃ z,z=bs (91::l1):=⟨_,rfl⟩
  have hl1:l1≠[]:=by rintro rfl;simp [passM] at hp;exact h3.1 hp
  have hz1:((z.size:Int) == 1)=false:=by
    have:=List.length_pos_iff.2 hl1
    rw [hz,bs_size];simp only [List.length_cons,beq_eq_false_iff_ne];omega
  have hz0:((z.size:Int) == 0)=false:=by rw [hz,bs_size];simp only [List.length_cons,beq_eq_false_iff_ne];omega
  have hck:=fun w=>check_any ⟨#[112,97,114,115,101,32,111,98,106,101,99,116]⟩ lv (by omega) w
  rw [←hz] at hpre hfwd c0
  have HL:=Lib.hid hL
  have HE:=Lib.hid hE
  have HC:=Lib.hid hC
  have Hp:=Lib.hid hp
  have Hd:=Lib.hid hd
  have Hz:=Lib.hid hz.symm
  have H3:=Lib.hid (And.intro h3 (show la.length≤100000 by simp at h3l;omega))
  clear hL hE hC hp h hd h3 h3l hcs hm hz hl1
  go_enter Tryz.func99,Tryz.ntmps99
  go_wp2_with fail
  refine (hck _).mono ?_
  rintro e w1 ⟨rfl,hw1⟩
  subst w1
  go_wp2_with fail
  obtain ⟨w2,hw2⟩:∃ w2,w2=(w.alloc (Obj.cells #[] 99)).alloc (Obj.cells #[Value.string z] 9):=⟨_,rfl⟩
  have hbx2:w2.heap[w.heap.size]?=some (.cells #[] 99 (0,0)):=by rw [hw2];exact (alloc2 w w.heap.size rfl _ _).1
  have hLl2:LineAt w2 (w.heap.size + 1) (91::l1):=by unfold LineAt;rw [hw2,←Hz.out];exact (alloc2 w w.heap.size rfl _ _).2
  have hG2:w.grownBy w2 none:=by rw [hw2];exact gr_alloc (gr_alloc (World.grownBy.refl w none) _) _
  rw [←hw2]
  have HL2:=Lib.hid (HL.out.keep hG2 (by simp))
  have HLl2:=Lib.hid hLl2
  have HG2:=Lib.hid hG2
  obtain ⟨c2,f2⟩:=HL2.out.cell
  obtain ⟨d2,e2⟩:=HLl2.out.cell
  rw [Hz.out] at c2 d2
  have HB2:=Lib.hid hbx2
  clear hw2 hLl2 hG2 hbx2
  refine (hpre _).mono ?_
  rintro e w1 ⟨rfl,hw1⟩
  subst w1
  go_wp2_with fail
  refine (hfwd _).mono ?_
  rintro e w1 ⟨rfl,hw1⟩
  subst w1
  go_wp2_with fail
  have hL3:=HLl2.out.set l1
  have hg3:=gr_set (World.grownBy.refl w2 (some (w.heap.size + 1))) 0 (.string (bs l1))
  generalize w2.setCell ⟨w.heap.size + 1,0,none⟩ (.string (bs l1))=w3 at hL3 hg3 ⊢
  have HL3:=Lib.hid hL3
  have Hg3:=Lib.hid hg3
  clear hL3 hg3
  refine (trim_any2 l1 la _ Hp.out H3.out.1.2).mono ?_
  rintro e w4 ⟨⟨q,hq,rfl⟩,hb4⟩
  obtain rfl:q=la:=by rcases hq with h | ⟨h,_⟩;exact h;exact absurd h H3.out.1.1
  have hg4:=gr_of_below hb4
  have HL4:=Lib.hid (HL3.out.keep hg4 (by simp))
  have Hg4:=Lib.hid (Hg3.out.trans (hg4.but (some (w.heap.size + 1))))
  obtain ⟨c4,f4⟩:=HL4.out.cell
  have hq0:((((bs q).size:Nat):Int) == 0)=false:=by
    rw [bs_size]
    have:=List.length_pos_iff.2 H3.out.1.1
    simp only [beq_eq_false_iff_ne];omega
  clear hq hb4 hg4 c2 d2 f2 e2
  go_wp2_with fail
  have hJ0:ArrJ pf nn n w4.heap.size w (((w4.setCell ⟨w.heap.size + 1,0,none⟩ (.string (bs q))).alloc (.cells #[] 50)).alloc (.cells #[.slice (some ⟨w4.heap.size,0,none⟩) 0 0] 77)) xs r q.length q m [] [] (.slice (some ⟨w4.heap.size,0,none⟩) 0 0) [] (fun _=>False):=by
    obtain ⟨W,hW⟩:∃ W,W=w4.setCell ⟨w.heap.size + 1,0,none⟩ (.string (bs q)):=⟨_,rfl⟩
    have hL5:=HL4.out.set q
    have hg5:=gr_set Hg4.out 0 (.string (bs q))
    have hsz:W.heap.size=w4.heap.size:=by rw [hW];simp
    rw [←hW] at hL5 hg5 ⊢
    have hga:W.grownBy ((W.alloc (.cells #[] 50)).alloc (.cells #[.slice (some ⟨w4.heap.size,0,none⟩) 0 0] 77)) none:=gr_alloc (gr_alloc (World.grownBy.refl _ _) _) _
    have h2:=hLl2lt HLl2.out Hg4.out
    refine ⟨hL5.keep hga (by simp),passM_fix Hp.out,Hd.out,?_,⟨rfl,.inr ⟨w4.heap.size,0,#[],rfl,h2,?_,by simp,by unfold maxLen;omega,rfl,rfl⟩⟩,by simp [Value.ownBlock],rfl,fun k hk=>hk.elim,Corr.anil,?_,by have:=H3.out.2;simpa using this,rfl,?_,h2⟩
    · exact (alloc2 W w4.heap.size hsz _ _).2
    · exact (alloc2 W w4.heap.size hsz _ _).1
    · exact (gr_noneThen HG2.out hg5 (fun j hj=>by injection hj with hj;omega)).trans hga
    · exact (hga.block _ (by have:=h2;omega) (by simp)).trans ((hg5.block _ (Array.getElem?_eq_some_iff.1 HB2.out).1 (by simp)).trans HB2.out)
  have HJ0:=Lib.hid hJ0
  clear hJ0
  go_loopg [] q.length (fun g wr=>ArK pf nn n w4.heap.size w wr xs r g)
  case atStart=>exact ⟨_,_,_,_,_,_,_,_,_,HJ0.out⟩
  case round =>
    clear HJ0 c4 f4
    obtain ⟨la,m2,acc,ps,so,sn,sc,cells,S,hJ⟩:=hrel
    obtain ⟨c1,f1⟩:=hJ.line.cell
    obtain ⟨m',la',hm',hpl',hcase⟩:=rdArr_inv (rdV_odd pf n) hJ.rd
    rw [hJ.pass] at hpl'
    injection hpl' with hpl' _
    subst hpl'
    have HJ:=Lib.hid hJ
    rcases hcase with ⟨t,rfl,rfl,rfl⟩ | ⟨x,l2,h93,hv,hrest⟩
    · have hpr:=fun w=>prefix_any (93::r) [93] true (by simp [List.isPrefixOf]) w
      have hfw:=fun w=>fwd_any (93::r) 1 w
      simp only [List.drop_succ_cons,List.drop_zero] at hfw
      clear hJ
      go_wp2_with fail
      refine (hpr _).mono ?_
      rintro e w2 ⟨rfl,hw2⟩
      subst w2
      go_wp2_with fail
      refine (hfw _).mono ?_
      rintro e w2 ⟨rfl,hw2⟩
      subst w2
      have hL0:=HL.out.keep HJ.out.grow (by simp)
      obtain ⟨c0,f0⟩:=hL0.cell
      have HL0:=Lib.hid hL0
      clear hL0
      go_wp2_with fail
      go_ret2
      obtain ⟨w7,hw7⟩:∃ w7,w7=wr.setCell ⟨w.heap.size + 1,0,none⟩ (.string (bs r)):=⟨_,rfl⟩
      have hg7:=gr_set (World.grownBy.refl wr (some (w.heap.size + 1))) 0 (.string (bs r))
      rw [←hw7] at hg7 ⊢
      have hg8:=gr_set (World.grownBy.refl w7 (some b)) 0 (.string (bs r))
      have hLb:=HL0.out.keep hg7 (by simp;omega)
      have hkk:∀ k,k < wr.heap.size→k≠b→k≠w.heap.size + 1→(w7.setCell ⟨b,0,none⟩ (.string (bs r))).heap[k]?=wr.heap[k]?:=fun k h1 h2 h3=>(hg8.block k (Nat.lt_of_lt_of_le h1 hg7.size) (by simp;omega)).trans (hg7.block k h1 (by simp;omega))
      have hs7:=hg7.size
      have hs8:=hg8.size
      have hJ:=HJ.out
      have hNN:=hJ.hN
      have harr:w4.heap.size + 1 < wr.heap.size:=(Array.getElem?_eq_some_iff.1 hJ.arr).1
      have hrow:=World.ownsRow.lt hJ.row
      refine ⟨ps,.slice so sn sc,cells,fun k=>S k∨(Value.slice so sn sc).ownBlock=some k,w4.heap.size + 1,rfl,(hkk _ harr (by omega) (by omega)).trans hJ.arr,(SlAt.of_row hJ.row (fun k=>(Value.slice so sn sc).ownBlock=some k) (fun k hk=>hk)).keep (fun k hk=>⟨.inr hk,hkk k (hrow k hk).2 (by have:=hrow k hk;omega) (by have:=hrow k hk;omega)⟩),ObjOs.keep (fun k hk=>⟨.inl hk,hkk k (hJ.bnd k hk).2.1 (by have:=hJ.bnd k hk;omega) (by have:=hJ.bnd k hk;omega)⟩) _ _ hJ.objs,fun k hk=>?_,hJ.corr,hLb.set r,?_,by have:=hJ.len;omega⟩
      · rcases hk with hk | hk
        · have:=hJ.bnd k hk;omega
        · have:=hrow k hk;omega
      · exact gr_set ((gr_noneThen hJ.grow hg7 (fun j hj=>by injection hj with hj;omega)).but (some b)) _ _
    · have hpr:=fun w=>prefix_any la [93] false (by
        cases la with
        | nil=>rfl
        | cons c la =>
          simp [headIs] at h93
          simp [List.isPrefixOf]
          intro e;apply h93;rw [←e];rfl) w
      have hE1:=HE.out.grown0 hJ.grow
      have hlvw:=wrap1 hlv (by omega)
      have hob:=HC.out wr (w.heap.size + 1) la x l2 (lv + 1) hE1 (by have:=HE.out.1;omega) hJ.line (by have:=hJ.len;omega) (by omega) (by omega) hv
      have hbx:=hJ.box
      have hrl:=rdV_len _ _ _ _ _ _ _ hv
      have Hhv:=Lib.hid (And.intro hv hrl)
      have Hrest:=Lib.hid hrest
      have hNN:=hJ.hN
      clear hJ hE1 hv hrl hrest
      go_wp2_with fail
      refine (hpr _).mono ?_
      rintro e w2 ⟨rfl,hw2⟩
      subst w2
      go_wp2_with fail
      refine hob.mono ?_
      rintro e w6 ⟨po,v,S2,rfl,hO6,hS6,hC6,hL6,hg6⟩
      obtain ⟨m2',la3,hm3,hp3,hcs3⟩:=rdArr_inv (rdV_odd pf n) Hrest.out
      have h3:la3≠[]∧∀ c∈la3.head?,isPlain (c.toNat:Int)=true:=by
        rcases hcs3 with ⟨t,rfl,_⟩ | ⟨x4,l5,_,hv,_⟩
        · exact ⟨by simp,fun c hc=>by simp at hc;subst hc;decide⟩
        · exact rdV_plain (passM_fix hp3) hv
      have h3l:=passM_len false l2 false
      rw [hp3] at h3l
      have H3':=Lib.hid (show passM false l2 false=(la3,false)∧la3≠[]∧(∀ c∈la3.head?,isPlain (c.toNat:Int)=true)∧la3.length≤l2.length∧rdArr (rdV pf n) m' la3 false (acc ++ [x])=some (xs,r,false) from ⟨hp3,h3.1,h3.2,h3l,(rdArr_pass hp3).trans Hrest.out⟩)
      have hl2:0 < l2.length:=Nat.lt_of_lt_of_le (List.length_pos_iff.2 h3.1) h3l
      have hz2:((((bs l2).size:Nat):Int) == 0)=false:=by rw [bs_size];simp only [beq_eq_false_iff_ne];omega
      have harr6:=(hg6.block _ (Array.getElem?_eq_some_iff.1 HJ.out.arr).1 (by simp;omega)).trans HJ.out.arr
      have hrow6:w6.ownsRow (w.heap.size + 2) 50 1 (.slice so sn sc) ps.length cells:=row_keptB HJ.out.row hg6 (fun k hk=>by have:=World.ownsRow.lt HJ.out.row k hk;simp;omega)
      obtain ⟨ti,hti,htz0,htz1,htz2⟩:=info_parts Tryz.info50'
      have hlt6:w.heap.size + 2≤w6.heap.size:=by have:=(Array.getElem?_eq_some_iff.1 harr6).1;omega
      have c6:w6.cell? ⟨w4.heap.size + 1,0,none⟩=some (.slice so sn sc):=by simp [World.cell?,harr6]
      have f6:w6.frozen? ⟨w4.heap.size + 1,0,none⟩=false:=by simp [World.frozen?,harr6]
      have Hps:=Lib.hid HJ.out.len
      have Hlt6:=Lib.hid hlt6
      have Hbx6:=Lib.hid ((hg6.block _ (Array.getElem?_eq_some_iff.1 hbx).1 (by simp)).trans hbx)
      have Harr6:=Lib.hid harr6
      have Hrow6:=Lib.hid hrow6
      have Hg6:=Lib.hid hg6
      have HL6:=Lib.hid hL6
      have HO6:=Lib.hid hO6
      have HS2:=Lib.hid hS6
      have HCv:=Lib.hid hC6
      have hno:=hO6.nil_or
      clear hm3 hp3 hcs3 h3 h3l hO6 hS6 hC6 hL6 hg6 hbx harr6 hrow6 hlt6 c1 f1 hpr hob hq0 hz0 hz1 hck hpre hfwd
      rcases hno with ⟨_,rfl⟩ | ⟨_,ty,u,rfl⟩
      · go_wp2_with (first | (at_builtin;refine wpList_append_own_at _ rfl _ _ 77 rfl (w.heap.size + 2) 50 ti .nilIface 1 16 Tryz.underlying77 hti htz0 htz1 htz2 rfl (by decide) _ _ _ rfl (World.ownsRow.alloc Hrow6.out _) ⟨w6.heap.size,0,none⟩ 1 1 [.nilIface] rfl rfl (cell_one_new _ _ _) (by intro u' hu;simp at hu;subst hu;simp [Value.oneCell']) (by unfold maxLen;have:=Hps.out;omega) (by have:=Hps.out;omega) (by have:=Hlt6.out;simp;omega) ?_))
        intro v7 w7 ho7 hg7 _ hat7
        have hshape:∃ gg cap,v7=.slice (some ⟨gg,0,none⟩) (ps.length + 1) cap:=by
          rcases ho7.2 with ⟨_,h0⟩ | ⟨gg,cap,cur,h,_⟩
          · exact absurd h0 (by omega)
          · exact ⟨gg,cap,h⟩
        obtain ⟨gg,cap,rfl⟩:=hshape
        have hg67:=gr_alloc_then hg7
        have hs67:=hg67.size
        have hrowlt:=World.ownsRow.lt Hrow6.out
        have hL7:=HL6.out.keep hg67 (fun e=>by have:=hrowlt _ e.symm;omega)
        have harr7:=(hg67.block _ (Array.getElem?_eq_some_iff.1 Harr6.out).1 (fun e=>HJ.out.own e.symm)).trans Harr6.out
        have c7:w7.cell? ⟨w4.heap.size + 1,0,none⟩=some (.slice so sn sc):=by simp [World.cell?,harr7]
        have f7:w7.frozen? ⟨w4.heap.size + 1,0,none⟩=false:=by simp [World.frozen?,harr7]
        obtain ⟨d7,e7⟩:=hL7.cell
        have hgg:gg≠w4.heap.size + 1:=by
          rintro rfl
          rcases hat7 with h | h
          · exact HJ.out.own h.symm
          · have:=(Array.getElem?_eq_some_iff.1 Harr6.out).1
            simp [Value.ownBlock] at h
            omega
        have hbx7:w7.heap[w.heap.size]?=some (.cells #[] 99 (0,0)):=(hg67.block _ (by have:=Hlt6.out;omega) (fun e=>by have:=hrowlt _ e.symm;omega)).trans Hbx6.out
        have HOv:=Lib.hid (ObjO.keep (S':=fun k=>S k∨S2 k) (fun k hk=>⟨.inr hk,hg67.block k (HS2.out k hk).2 (fun e=>by
          have h1:=World.ownsRow.lt HJ.out.row _ e.symm
          have:=HS2.out k hk;omega)⟩) _ _ HO6.out)
        have HOs:=Lib.hid (ObjOs.keep (S':=fun k=>S k∨S2 k) (fun k hk=>⟨.inl hk,(hg67.block k (by have:=(HJ.out.bnd k hk).2.1;have:=Hg6.out.size;omega) (fun e=>(HJ.out.bnd k hk).2.2.2 e.symm)).trans (Hg6.out.block k (HJ.out.bnd k hk).2.1 (by have:=HJ.out.bnd k hk;simp;omega))⟩) _ _ HJ.out.objs)
        have HL7:=Lib.hid hL7
        have HG7:=Lib.hid (show w.grownBy w7 none from gr_noneThen (gr_noneThen HJ.out.grow Hg6.out (fun j hj=>by injection hj with hj;omega)) hg67 (fun j hj=>by have:=hrowlt _ hj;omega))
        have Hs:=Lib.hid (show wr.heap.size≤w6.heap.size∧w6.heap.size≤w7.heap.size∧w4.heap.size + 1 < wr.heap.size from ⟨Hg6.out.size,hs67,(Array.getElem?_eq_some_iff.1 HJ.out.arr).1⟩)
        have Ho7:=Lib.hid ho7
        have Hbx7:=Lib.hid hbx7
        have Harr7:=Lib.hid harr7
        have Hat7:=Lib.hid (show (Value.slice so sn sc).ownBlock=some gg∨w6.heap.size≤gg from by
          rcases hat7 with h | h
          · left;rw [←h];rfl
          · right;simp [Value.ownBlock] at h;omega)
        have Hrl:=Lib.hid (show ∀ k,(Value.slice so sn sc).ownBlock=some k→k < wr.heap.size from fun k hk=>(World.ownsRow.lt HJ.out.row k hk).2)
        have Hgg:=Lib.hid hgg
        clear hL7 hg67 hs67 hrowlt hbx7 hat7 hg7 ho7 harr7 c6 f6 hgg
        go_wp2_with fail
        obtain ⟨w8,hw8⟩:∃ w8,w8=w7.setCell ⟨w4.heap.size + 1,0,none⟩ (.slice (some ⟨gg,0,none⟩) (ps.length + 1) cap):=⟨_,rfl⟩
        have hg8:=gr_set (World.grownBy.refl w7 (some (w4.heap.size + 1))) 0 (.slice (some ⟨gg,0,none⟩) (ps.length + 1) cap)
        have harr8:=cells1_set Harr7.out (.slice (some ⟨gg,0,none⟩) (ps.length + 1) cap)
        rw [←hw8] at hg8 harr8 ⊢
        have HL8:=Lib.hid (HL7.out.keep hg8 (by simp;omega))
        have Hg8:=Lib.hid hg8
        have Harr8:=Lib.hid harr8
        clear hw8 hg8 harr8 c7 f7 d7 e7
        refine (trim_any2 l2 la3 _ H3'.out.1 H3'.out.2.2.1).mono ?_
        rintro e w9 ⟨⟨q9,hq9,rfl⟩,hb9⟩
        obtain rfl:q9=la3:=by rcases hq9 with h | ⟨h,_⟩;exact h;exact absurd h H3'.out.2.1
        have hg9:=gr_of_below hb9
        have hL9:=HL8.out.keep hg9 (by simp)
        obtain ⟨c9,f9⟩:=hL9.cell
        have HL9:=Lib.hid hL9
        have Hg9:=Lib.hid hg9
        have hz9:((((bs q9).size:Nat):Int) == 0)=false:=by
          rw [bs_size]
          have:=List.length_pos_iff.2 H3'.out.2.1
          simp only [beq_eq_false_iff_ne];omega
        clear hg9 hb9 hL9 hq9
        go_wp2_with fail
        go_roundg q9.length
        case measure=>rw [HJ.out.meas];have:=H3'.out.2.2.2.1;have:=Hhv.out.2;omega
        case rel =>
          have hst:=gr_set (Hg9.out.but (some (w.heap.size + 1))) 0 (.string (bs q9))
          have hs0:=Hs.out
          have hs8:=Hg8.out.size
          have hst2:=hst.size
          have hkk:∀ k,k < w7.heap.size→k≠w4.heap.size + 1→k≠w.heap.size + 1→(w9.setCell ⟨w.heap.size + 1,0,none⟩ (.string (bs q9))).heap[k]?=w7.heap[k]?:=fun k h1 h2 h3=>(hst.block k (by omega) (by simp;omega)).trans (Hg8.out.block k h1 (by simp;omega))
          have hrow7:(w9.setCell ⟨w.heap.size + 1,0,none⟩ (.string (bs q9))).ownsRow (w.heap.size + 2) 50 1 (.slice (some ⟨gg,0,none⟩) (ps.length + 1) cap) (ps.length + 1) (cells ++ [.nilIface]):=by
            have h8:=row_keptB Ho7.out Hg8.out (fun k hk e=>by injection e with e;simp [Value.ownBlock] at hk;exact Hgg.out (hk.trans e.symm))
            exact row_keptB h8 hst (fun k hk e=>by injection e with e;have:=World.ownsRow.lt Ho7.out k hk;omega)
          refine ⟨q9,m',acc ++ [x],ps ++ [po],_,_,_,cells ++ [.nilIface],fun k=>S k∨S2 k,HL9.out.set q9,passM_fix H3'.out.1,H3'.out.2.2.2.2,(hst.block _ (Array.getElem?_eq_some_iff.1 Harr8.out).1 (by simp;omega)).trans Harr8.out,by simpa using hrow7,by simp [Value.ownBlock];exact Hgg.out,?_,?_,HJ.out.corr.apush HCv.out,?_,?_,rfl,(hkk _ (by omega) (by omega) (by omega)).trans Hbx7.out,HJ.out.hN⟩
          · refine ObjOs.append (ObjOs.one (ObjO.keep (fun k hk=>⟨hk,?_⟩) _ _ HOv.out)) _ _ (ObjOs.keep (fun k hk=>⟨hk,?_⟩) _ _ HOs.out)
            all_goals
              rcases hk with hk | hk
              · have:=HJ.out.bnd k hk
                exact hkk k (by omega) (by omega) (by omega)
              · have:=HS2.out k hk
                exact hkk k (by omega) (by omega) (by omega)
          · intro k hk
            have hat:=Hat7.out
            rcases hk with hk | hk
            · have h1:=HJ.out.bnd k hk
              refine ⟨h1.1,by omega,h1.2.2.1,fun e=>?_⟩
              have e:gg=k:=by simpa [Value.ownBlock] using e
              rcases hat with h | h
              · exact h1.2.2.2 (h.trans (by rw [e]))
              · omega
            · have h1:=HS2.out k hk
              refine ⟨by omega,by omega,by omega,fun e=>?_⟩
              have e:gg=k:=by simpa [Value.ownBlock] using e
              rcases hat with h | h
              · have:=Hrl.out _ h;omega
              · omega
          · exact gr_noneThen (gr_noneThen HG7.out Hg8.out (fun j hj=>by injection hj with hj;omega)) hst (fun j hj=>by injection hj with hj;omega)
          · have:=HJ.out.len;have:=H3'.out.2.2.2.1;have:=Hhv.out.2;simp;omega
      · go_wp2_with (first | (at_builtin;refine wpList_append_own_at _ rfl _ _ 77 rfl (w.heap.size + 2) 50 ti .nilIface 1 16 Tryz.underlying77 hti htz0 htz1 htz2 rfl (by decide) _ _ _ rfl (World.ownsRow.alloc Hrow6.out _) ⟨w6.heap.size,0,none⟩ 1 1 [.iface ty u] rfl rfl (cell_one_new _ _ _) (by intro u' hu;simp at hu;subst hu;simp [Value.oneCell']) (by unfold maxLen;have:=Hps.out;omega) (by have:=Hps.out;omega) (by have:=Hlt6.out;simp;omega) ?_))
        intro v7 w7 ho7 hg7 _ hat7
        have hshape:∃ gg cap,v7=.slice (some ⟨gg,0,none⟩) (ps.length + 1) cap:=by
          rcases ho7.2 with ⟨_,h0⟩ | ⟨gg,cap,cur,h,_⟩
          · exact absurd h0 (by omega)
          · exact ⟨gg,cap,h⟩
        obtain ⟨gg,cap,rfl⟩:=hshape
        have hg67:=gr_alloc_then hg7
        have hs67:=hg67.size
        have hrowlt:=World.ownsRow.lt Hrow6.out
        have hL7:=HL6.out.keep hg67 (fun e=>by have:=hrowlt _ e.symm;omega)
        have harr7:=(hg67.block _ (Array.getElem?_eq_some_iff.1 Harr6.out).1 (fun e=>HJ.out.own e.symm)).trans Harr6.out
        have c7:w7.cell? ⟨w4.heap.size + 1,0,none⟩=some (.slice so sn sc):=by simp [World.cell?,harr7]
        have f7:w7.frozen? ⟨w4.heap.size + 1,0,none⟩=false:=by simp [World.frozen?,harr7]
        obtain ⟨d7,e7⟩:=hL7.cell
        have hgg:gg≠w4.heap.size + 1:=by
          rintro rfl
          rcases hat7 with h | h
          · exact HJ.out.own h.symm
          · have:=(Array.getElem?_eq_some_iff.1 Harr6.out).1
            simp [Value.ownBlock] at h
            omega
        have hbx7:w7.heap[w.heap.size]?=some (.cells #[] 99 (0,0)):=(hg67.block _ (by have:=Hlt6.out;omega) (fun e=>by have:=hrowlt _ e.symm;omega)).trans Hbx6.out
        have HOv:=Lib.hid (ObjO.keep (S':=fun k=>S k∨S2 k) (fun k hk=>⟨.inr hk,hg67.block k (HS2.out k hk).2 (fun e=>by
          have h1:=World.ownsRow.lt HJ.out.row _ e.symm
          have:=HS2.out k hk;omega)⟩) _ _ HO6.out)
        have HOs:=Lib.hid (ObjOs.keep (S':=fun k=>S k∨S2 k) (fun k hk=>⟨.inl hk,(hg67.block k (by have:=(HJ.out.bnd k hk).2.1;have:=Hg6.out.size;omega) (fun e=>(HJ.out.bnd k hk).2.2.2 e.symm)).trans (Hg6.out.block k (HJ.out.bnd k hk).2.1 (by have:=HJ.out.bnd k hk;simp;omega))⟩) _ _ HJ.out.objs)
        have HL7:=Lib.hid hL7
        have HG7:=Lib.hid (show w.grownBy w7 none from gr_noneThen (gr_noneThen HJ.out.grow Hg6.out (fun j hj=>by injection hj with hj;omega)) hg67 (fun j hj=>by have:=hrowlt _ hj;omega))
        have Hs:=Lib.hid (show wr.heap.size≤w6.heap.size∧w6.heap.size≤w7.heap.size∧w4.heap.size + 1 < wr.heap.size from ⟨Hg6.out.size,hs67,(Array.getElem?_eq_some_iff.1 HJ.out.arr).1⟩)
        have Ho7:=Lib.hid ho7
        have Hbx7:=Lib.hid hbx7
        have Harr7:=Lib.hid harr7
        have Hat7:=Lib.hid (show (Value.slice so sn sc).ownBlock=some gg∨w6.heap.size≤gg from by
          rcases hat7 with h | h
          · left;rw [←h];rfl
          · right;simp [Value.ownBlock] at h;omega)
        have Hrl:=Lib.hid (show ∀ k,(Value.slice so sn sc).ownBlock=some k→k < wr.heap.size from fun k hk=>(World.ownsRow.lt HJ.out.row k hk).2)
        have Hgg:=Lib.hid hgg
        clear hL7 hg67 hs67 hrowlt hbx7 hat7 hg7 ho7 harr7 c6 f6 hgg
        go_wp2_with fail
        obtain ⟨w8,hw8⟩:∃ w8,w8=w7.setCell ⟨w4.heap.size + 1,0,none⟩ (.slice (some ⟨gg,0,none⟩) (ps.length + 1) cap):=⟨_,rfl⟩
        have hg8:=gr_set (World.grownBy.refl w7 (some (w4.heap.size + 1))) 0 (.slice (some ⟨gg,0,none⟩) (ps.length + 1) cap)
        have harr8:=cells1_set Harr7.out (.slice (some ⟨gg,0,none⟩) (ps.length + 1) cap)
        rw [←hw8] at hg8 harr8 ⊢
        have HL8:=Lib.hid (HL7.out.keep hg8 (by simp;omega))
        have Hg8:=Lib.hid hg8
        have Harr8:=Lib.hid harr8
        clear hw8 hg8 harr8 c7 f7 d7 e7
        refine (trim_any2 l2 la3 _ H3'.out.1 H3'.out.2.2.1).mono ?_
        rintro e w9 ⟨⟨q9,hq9,rfl⟩,hb9⟩
        obtain rfl:q9=la3:=by rcases hq9 with h | ⟨h,_⟩;exact h;exact absurd h H3'.out.2.1
        have hg9:=gr_of_below hb9
        have hL9:=HL8.out.keep hg9 (by simp)
        obtain ⟨c9,f9⟩:=hL9.cell
        have HL9:=Lib.hid hL9
        have Hg9:=Lib.hid hg9
        have hz9:((((bs q9).size:Nat):Int) == 0)=false:=by
          rw [bs_size]
          have:=List.length_pos_iff.2 H3'.out.2.1
          simp only [beq_eq_false_iff_ne];omega
        clear hg9 hb9 hL9 hq9
        go_wp2_with fail
        go_roundg q9.length
        case measure=>rw [HJ.out.meas];have:=H3'.out.2.2.2.1;have:=Hhv.out.2;omega
        case rel =>
          have hst:=gr_set (Hg9.out.but (some (w.heap.size + 1))) 0 (.string (bs q9))
          have hs0:=Hs.out
          have hs8:=Hg8.out.size
          have hst2:=hst.size
          have hkk:∀ k,k < w7.heap.size→k≠w4.heap.size + 1→k≠w.heap.size + 1→(w9.setCell ⟨w.heap.size + 1,0,none⟩ (.string (bs q9))).heap[k]?=w7.heap[k]?:=fun k h1 h2 h3=>(hst.block k (by omega) (by simp;omega)).trans (Hg8.out.block k h1 (by simp;omega))
          have hrow7:(w9.setCell ⟨w.heap.size + 1,0,none⟩ (.string (bs q9))).ownsRow (w.heap.size + 2) 50 1 (.slice (some ⟨gg,0,none⟩) (ps.length + 1) cap) (ps.length + 1) (cells ++ [.iface ty u]):=by
            have h8:=row_keptB Ho7.out Hg8.out (fun k hk e=>by injection e with e;simp [Value.ownBlock] at hk;exact Hgg.out (hk.trans e.symm))
            exact row_keptB h8 hst (fun k hk e=>by injection e with e;have:=World.ownsRow.lt Ho7.out k hk;omega)
          refine ⟨q9,m',acc ++ [x],ps ++ [po],_,_,_,cells ++ [.iface ty u],fun k=>S k∨S2 k,HL9.out.set q9,passM_fix H3'.out.1,H3'.out.2.2.2.2,(hst.block _ (Array.getElem?_eq_some_iff.1 Harr8.out).1 (by simp;omega)).trans Harr8.out,by simpa using hrow7,by simp [Value.ownBlock];exact Hgg.out,?_,?_,HJ.out.corr.apush HCv.out,?_,?_,rfl,(hkk _ (by omega) (by omega) (by omega)).trans Hbx7.out,HJ.out.hN⟩
          · refine ObjOs.append (ObjOs.one (ObjO.keep (fun k hk=>⟨hk,?_⟩) _ _ HOv.out)) _ _ (ObjOs.keep (fun k hk=>⟨hk,?_⟩) _ _ HOs.out)
            all_goals
              rcases hk with hk | hk
              · have:=HJ.out.bnd k hk
                exact hkk k (by omega) (by omega) (by omega)
              · have:=HS2.out k hk
                exact hkk k (by omega) (by omega) (by omega)
          · intro k hk
            have hat:=Hat7.out
            rcases hk with hk | hk
            · have h1:=HJ.out.bnd k hk
              refine ⟨h1.1,by omega,h1.2.2.1,fun e=>?_⟩
              have e:gg=k:=by simpa [Value.ownBlock] using e
              rcases hat with h | h
              · exact h1.2.2.2 (h.trans (by rw [e]))
              · omega
            · have h1:=HS2.out k hk
              refine ⟨by omega,by omega,by omega,fun e=>?_⟩
              have e:gg=k:=by simpa [Value.ownBlock] using e
              rcases hat with h | h
              · have:=Hrl.out _ h;omega
              · omega
          · exact gr_noneThen (gr_noneThen HG7.out Hg8.out (fun j hj=>by injection hj with hj;omega)) hst (fun j hj=>by injection hj with hj;omega)
          · have:=HJ.out.len;have:=H3'.out.2.2.2.1;have:=Hhv.out.2;simp;omega
end Go.Proofs.YtfkecmlmnhbmoaaGreatDoor
namespace Go.Proofs.YtfkecmlmnhbmoaaGreatDoor
open Go Go.RowKit
open Go.Maps
set_option maxRecDepth 100000 in
set_option maxHeartbeats 40000000 in
theorem pval_lit (w:World) (nn:Nat→Prop) (n:Nat) (b:Nat) (l1 t r:By) (hL:LineAt w b (40::l1)) (hl:l1.length≤100000) (h:litF (40::l1) 0 []=some (t,r)) (lv:Int) :
    Calls Tryz.prog 82 #[.agg #[],.pointer (some ⟨b,0,none⟩),.int .i64 lv,.int .i64 100,.bool false] w fun e w'=>ObjPost nn (n + 1) w w' b (.str t) r e:=by
  obtain ⟨s,hs,hb,hlit⟩:=lit_all h
  obtain ⟨c0,f0⟩:=hL.cell
  have hbw:=hL.lt
  obtain ⟨z,hz⟩:∃ z,z=bs (40::l1):=⟨_,rfl⟩
  obtain ⟨hk1,hget⟩:=bs_at (l:=40::l1) (pre:=[]) (c:=40) (post:=l1) rfl
  have hz0:0 < z.size:=by rw [hz];exact hk1
  have hg0:z[0]'hz0=40:=by simp only [hz];exact hget
  rw [←hz] at c0
  have hga:w.grownBy (w.alloc (Obj.cells #[] 99)) none:=gr_alloc (World.grownBy.refl _ _) _
  have hd:=lit102_any (w.alloc (Obj.cells #[] 99)) b l1 s r (hL.keep hga (by simp)) hb hs (by omega)
  have HL:=Lib.hid hL
  have Hlit:=Lib.hid hlit
  have Hsl:=Lib.hid (show s.length≤250000 by rw [hs] at hl;simp at hl;omega)
  have Hga:=Lib.hid hga
  clear hL h hs hb hlit hz hk1 hget hga
  go_enter Tryz.func82,Tryz.ntmps82
  go_wp2_with fail
  refine hd.mono ?_
  rintro e w1 ⟨rfl,hL1,hg1⟩
  have H:=Lib.hid (show ObjPost nn (n + 1) w w1 b (.str t) r (.returned (.tuple #[.iface 69 (.string (bs s)),.nilIface])) from ObjPost.plain (.lit s) _ rfl (fun _ _=>by simp only [ObjO];exact ⟨Hsl.out,trivial⟩) (by simp only [Corr];exact Hlit.out) hL1 ((Hga.out.but (some b)).trans hg1))
  clear hL1 hg1
  go_wp2_with fail
  go_ret2
  exact H.out
theorem ObjPost.box {nn:Nat→Prop} {n:Nat} {w wb w':World} {b:Nat} {x:PV} {r:By} {e:Ending} (hg:w.grownBy wb none) (h:ObjPost nn n wb w' b x r e):ObjPost nn n w w' b x r e:=by
  obtain ⟨po,v,S,h1,h2,h3,h4,h5,h6⟩:=h
  exact ⟨po,v,S,h1,h2,fun k hk=>by have:=h3 k hk;have:=hg.size;omega,h4,h5,(hg.but (some b)).trans h6⟩
set_option maxRecDepth 100000 in
set_option maxHeartbeats 40000000 in
theorem pval_dict (pf:By→Nat) (nn:Nat→Prop) (W0 w:World) (hE:Env W0 w) (hI:InitP W0) (n:Nat) (hC:ObjC pf nn W0 n) (b:Nat) (l2:By) (hL:LineAt w b (60::60::l2)) (hl:l2.length≤100000) (hW0:W0.heap.size≤b) (lv:Int) (hlv:0≤lv) (hlv2:lv + n + 1≤100)
    (m:Nat) (res:List By × List PV) (r:By) (h:rdDict (rdV pf n) m l2 false [] []=some (res,r,false)) :
    Calls Tryz.prog 82 #[.agg #[],.pointer (some ⟨b,0,none⟩),.int .i64 lv,.int .i64 100,.bool false] w fun e w'=>ObjPost nn (n + 1) w w' b (.dict res.1 res.2) r e:=by
  obtain ⟨c0,f0⟩:=hL.cell
  have hbw:=hL.lt
  obtain ⟨z,hz⟩:∃ z,z=bs (60::60::l2):=⟨_,rfl⟩
  obtain ⟨hk1,hget⟩:=bs_at (l:=60::60::l2) (pre:=[]) (c:=60) (post:=60::l2) rfl
  have hz0:0 < z.size:=by rw [hz];exact hk1
  have hg0:z[0]'hz0=60:=by simp only [hz];exact hget
  have hga:w.grownBy (w.alloc (Obj.cells #[] 99)) none:=gr_alloc (World.grownBy.refl _ _) _
  rw [←hz] at c0
  have hd:=dict101_any pf nn W0 (w.alloc (Obj.cells #[] 99)) (hE.grown0 hga) hI n hC b l2 (hL.keep hga (by simp)) hl hW0 lv hlv hlv2 m res r h
  have Hga:=Lib.hid hga
  clear hL h hz hk1 hget hga hE hI hC
  go_enter Tryz.func82,Tryz.ntmps82
  go_wp2_with fail
  refine hd.mono ?_
  intro e w1 h1
  have H:=Lib.hid (ObjPost.box Hga.out h1)
  obtain ⟨po,v,S,rfl,-,-,-,-,-⟩:=h1
  go_wp2_with fail
  go_ret2
  exact H.out
set_option maxRecDepth 100000 in
set_option maxHeartbeats 40000000 in
theorem pval_hex (W0 w:World) (hE:Env W0 w) (hI:InitP W0) (nn:Nat→Prop) (n:Nat) (b:Nat) (l1 t r:By) (hL:LineAt w b (60::l1)) (hl:l1.length≤100000) (h60:is2 (60::l1) 60=false) (h:hexF l1 false 0 [] false=(0,t,r,false)) (lv:Int) :
    Calls Tryz.prog 82 #[.agg #[],.pointer (some ⟨b,0,none⟩),.int .i64 lv,.int .i64 100,.bool false] w fun e w'=>ObjPost nn (n + 1) w w' b (.str t) r e:=by
  obtain ⟨c0,f0⟩:=hL.cell
  have hbw:=hL.lt
  obtain ⟨z,hz⟩:∃ z,z=bs (60::l1):=⟨_,rfl⟩
  obtain ⟨hk1,hget⟩:=bs_at (l:=60::l1) (pre:=[]) (c:=60) (post:=l1) rfl
  have hz0:0 < z.size:=by rw [hz];exact hk1
  have hg0:z[0]'hz0=60:=by simp only [hz];exact hget
  have hga:w.grownBy (w.alloc (Obj.cells #[] 99)) none:=gr_alloc (World.grownBy.refl _ _) _
  rw [←hz] at c0
  have hd:=hex101_any W0 (w.alloc (Obj.cells #[] 99)) (hE.grown0 hga) hI nn n b l1 t r (hL.keep hga (by simp)) hl h60 h lv
  have Hga:=Lib.hid hga
  clear hL h hz hk1 hget hga hE hI h60
  go_enter Tryz.func82,Tryz.ntmps82
  go_wp2_with fail
  refine hd.mono ?_
  intro e w1 h1
  have H:=Lib.hid (ObjPost.box Hga.out h1)
  obtain ⟨po,v,S,rfl,-,-,-,-,-⟩:=h1
  go_wp2_with fail
  go_ret2
  exact H.out
theorem nameB_ne0:∀ (l out k:By),nameB l out=some k→(∀ c∈out,(c.toNat:Int)≠0)→(∀ c∈l,(c.toNat:Int)≠0)→∀ c∈k,(c.toNat:Int)≠0:=by
  intro l
  induction hn:l.length using Nat.strongRecOn generalizing l with
  | _ N ih =>
    intro out k h ho hl
    match l,hn,h,hl with
    | [],_,h,_=>simp [nameB] at h;subst h;exact ho
    | c :: l, hn, h, hl =>
      by_cases hc:((c.toNat:Int) != 35)=true
      · rw [nameB_plain hc] at h
        refine ih l.length (by simp at hn;omega) l rfl _ _ h (fun d hd=>?_) (fun d hd=>hl d (by simp [hd]))
        rcases List.mem_append.1 hd with hd | hd
        · exact ho d hd
        · simp at hd;subst hd;exact hl _ (by simp)
      · have hc : ((c.toNat : Int) != 35) = false := by simpa using hc
        match l,hn,h,hl with
        | [],_,h,_=>rw [nameB_1 hc] at h;simp at h
        | [a],_,h,_=>rw [nameB_2 hc] at h;simp at h
        | a :: d :: l, hn, h, hl =>
          rw [nameB_3 hc] at h
          split at h
          · simp at h
          · split at h
            · simp at h
            · rename_i h1 h2
              refine ih l.length (by simp at hn;omega) l rfl _ _ h (fun e he=>?_) (fun e he=>hl e (by simp [he]))
              rcases List.mem_append.1 he with he | he
              · exact ho e he
              · simp at he
                subst he
                have ha:=hexVal_range (a.toNat:Int)
                have hd:=hexVal_range (d.toNat:Int)
                rw [←ub_of (by omega) (by omega)]
                intro e;apply h2;simp;omega
set_option maxRecDepth 100000 in
set_option maxHeartbeats 40000000 in
theorem pval_name (W0 w:World) (hE:Env W0 w) (hI:InitP W0) (nn:Nat→Prop) (n:Nat) (b:Nat) (l1 k:By) (hL:LineAt w b (47::l1)) (hl:l1.length≤100000) (hW0:W0.heap.size≤b) (ho:wordO l1 false=false) (hk:nameB (wordT l1) []=some k) (lv:Int) :
    Calls Tryz.prog 82 #[.agg #[],.pointer (some ⟨b,0,none⟩),.int .i64 lv,.int .i64 100,.bool false] w fun e w'=>ObjPost nn (n + 1) w w' b (.name k) (wordR l1) e:=by
  obtain ⟨c0,f0⟩:=hL.cell
  have hbw:=hL.lt
  obtain ⟨z,hz⟩:∃ z,z=bs (47::l1):=⟨_,rfl⟩
  obtain ⟨hk1,hget⟩:=bs_at (l:=47::l1) (pre:=[]) (c:=47) (post:=l1) rfl
  have hz0:0 < z.size:=by rw [hz];exact hk1
  have hg0:z[0]'hz0=47:=by simp only [hz];exact hget
  have hga:w.grownBy (w.alloc (Obj.cells #[] 99)) none:=gr_alloc (World.grownBy.refl _ _) _
  rw [←hz] at c0
  have hkn:∀ c∈k,(c.toNat:Int)≠0:=nameB_ne0 _ _ _ hk (by simp) (fun c hc=>by
    have:=(reg_range ((wordO_plain l1 ho).1 c hc).1).1
    exact this)
  have hd:=name100_any W0 hI (w.alloc (Obj.cells #[] 99)) (hE.grown0 hga) b l1 k (hL.keep hga (by simp)) ho hk (by omega) hW0
  have Hga:=Lib.hid hga
  have Hkn:=Lib.hid hkn
  have Hkl:=Lib.hid (show k.length≤250000 by have h1:=nameB_len2 _ _ _ hk;have h2:(wordT l1).length≤l1.length:=(List.takeWhile_sublist _).length_le;simp at h1;omega)
  clear hL hz hk1 hget hga hE hI hk ho hkn
  go_enter Tryz.func82,Tryz.ntmps82
  go_wp2_with fail
  refine hd.mono ?_
  rintro e w1 ⟨⟨pb,rfl,hpb,hpbs⟩,hL1,hg1⟩
  have hp0:w1.cell? ⟨pb,0,none⟩=some (.string (bs k)):=by simp [World.cell?,hpb]
  have H:=Lib.hid (show ObjPost nn (n + 1) w w1 b (.name k) (wordR l1) (.returned (.tuple #[.iface 71 (.string (bs k)),.nilIface])) from ObjPost.plain (.name k) _ rfl (fun _ _=>by simp only [ObjO];exact ⟨Hkl.out,trivial⟩) (by simp only [Corr];exact ⟨trivial,Hkn.out⟩) hL1 ((Hga.out.but (some b)).trans hg1))
  clear hL1 hg1 hpb hpbs
  go_wp2_with fail
  go_ret2
  exact H.out
set_option maxRecDepth 100000 in
set_option maxHeartbeats 40000000 in
theorem pval_arr (pf:By→Nat) (nn:Nat→Prop) (W0 w:World) (hE:Env W0 w) (n:Nat) (hC:ObjC pf nn W0 n) (b:Nat) (l1:By) (hL:LineAt w b (91::l1)) (hl:l1.length≤100000) (hW0:W0.heap.size≤b) (lv:Int) (hlv:0≤lv) (hlv2:lv + n + 1≤100)
    (m:Nat) (xs:List PV) (r:By) (h:rdArr (rdV pf n) m l1 false []=some (xs,r,false)) :
    Calls Tryz.prog 82 #[.agg #[],.pointer (some ⟨b,0,none⟩),.int .i64 lv,.int .i64 100,.bool false] w fun e w'=>ObjPost nn (n + 1) w w' b (.arr xs) r e:=by
  obtain ⟨c0,f0⟩:=hL.cell
  have hbw:=hL.lt
  obtain ⟨z,hz⟩:∃ z,z=bs (91::l1):=⟨_,rfl⟩
  obtain ⟨hk1,hget⟩:=bs_at (l:=91::l1) (pre:=[]) (c:=91) (post:=l1) rfl
  have hz0:0 < z.size:=by rw [hz];exact hk1
  have hg0:z[0]'hz0=91:=by simp only [hz];exact hget
  have hga:w.grownBy (w.alloc (Obj.cells #[] 99)) none:=gr_alloc (World.grownBy.refl _ _) _
  rw [←hz] at c0
  have hd:=arr99_any pf nn W0 (w.alloc (Obj.cells #[] 99)) (hE.grown0 hga) n hC b l1 (hL.keep hga (by simp)) hl hW0 lv hlv hlv2 m xs r h
  have Hga:=Lib.hid hga
  clear hL h hz hk1 hget hga hE hC
  go_enter Tryz.func82,Tryz.ntmps82
  go_wp2_with fail
  refine hd.mono ?_
  rintro e w1 ⟨ps,sl,cells,S,ab,rfl,hab,hsl,hO,hS,hCo,hL1,hg1,hpl⟩
  have hp0:w1.cell? ⟨ab,0,none⟩=some sl:=by simp [World.cell?,hab]
  have H:=Lib.hid (show ObjPost nn (n + 1) w w1 b (.arr xs) r (.returned (.tuple #[.iface 77 sl,.nilIface])) from ObjPost.box Hga.out ⟨.arr ps,_,S,rfl,by simp only [ObjO];exact ⟨hpl,sl,cells,rfl,hsl,hO⟩,hS,hCo,hL1,hg1⟩)
  obtain ⟨o',cap,rfl⟩:∃ o' cap,sl=.slice o' ps.length cap:=by
    obtain ⟨_,o',cap,h,_⟩:=hsl
    exact ⟨o',cap,h⟩
  clear hL1 hg1 hab hsl hO hS hCo hpl
  go_wp2_with fail
  go_ret2
  exact H.out
theorem loB_num {c:UInt8} (h:(c.toNat:Int)=43∨(c.toNat:Int)=45∨(c.toNat:Int)=46∨48≤(c.toNat:Int)∧(c.toNat:Int)≤57):loB c≠110∧loB c≠116∧loB c≠102:=by
  rw [loB_lo (by omega)]
  refine ⟨?_,?_,?_⟩<;>(rintro rfl;simp at h)
theorem num_noopen {c:UInt8} (hd:isDelim (c.toNat:Int)=false):((c.toNat:Int) == 91)=false∧((c.toNat:Int) == 47)=false∧((c.toNat:Int) == 60)=false∧((c.toNat:Int) == 40)=false:=by
  unfold isDelim at hd
  simp at hd ⊢
  omega
set_option maxRecDepth 100000 in
set_option maxHeartbeats 40000000 in
theorem val_word (nn:Nat→Prop) (n:Nat) (w:World) (b:Nat) (c:UInt8) (l1 wd R:By) (hL:LineAt w b (c::l1)) (hsp:c::l1=wd ++ R) (hd:isDelim (c.toNat:Int)=false) (v:Value) (po:PO) (x:PV) (hwl:wd.length≤5) (hO:∀ S w,ObjO S w po v) (hCo:Corr nn (n + 1) po x)
    (hb:∀ w,Calls Tryz.prog 103 #[.string (bs (c::l1))] w fun e w'=>e=.returned (.tuple #[v,.string (bs wd),.bool true])∧Below w.heap.size w w') (hv:v=.nilIface∨∃ y,v=.iface 66 (.bool y)) (lv:Int) :
    Calls Tryz.prog 82 #[.agg #[],.pointer (some ⟨b,0,none⟩),.int .i64 lv,.int .i64 100,.bool false] w fun e w'=>ObjPost nn (n + 1) w w' b x R e:=by
  obtain ⟨c0,f0⟩:=hL.cell
  have hbw:=hL.lt
  obtain ⟨z,hz⟩:∃ z,z=bs (c::l1):=⟨_,rfl⟩
  obtain ⟨hk1,hget⟩:=bs_at (l:=c::l1) (pre:=[]) (c:=c) (post:=l1) rfl
  have hz0:0 < z.size:=by rw [hz];exact hk1
  have hg0:z[0]'hz0=c:=by simp only [hz];exact hget
  have hga:w.grownBy (w.alloc (Obj.cells #[] 99)) none:=gr_alloc (World.grownBy.refl _ _) _
  have hfw:=fun w=>fwd_any (c::l1) wd.length w
  rw [show (c::l1).drop wd.length=R by rw [hsp];simp] at hfw
  rw [←hz] at c0 hb
  obtain ⟨h91,h47,h60,h40⟩:=num_noopen hd
  have HL:=Lib.hid hL
  have Hga:=Lib.hid hga
  have Hoc:=Lib.hid (And.intro hO hCo)
  obtain ⟨y,hy⟩:∃ y,y=bs wd:=⟨_,rfl⟩
  have hys:(y.size:Int)=wd.length:=by rw [hy,bs_size]
  rw [←hy] at hb
  rw [←hys] at hfw
  clear hL hz hk1 hget hga hd hO hCo hy hsp
  rcases hv with rfl | ⟨yy,rfl⟩
  all_goals
    clear hys
    go_enter Tryz.func82,Tryz.ntmps82
    go_wp2_with fail
    refine (hb _).mono ?_
    rintro e w1 ⟨rfl,hb1⟩
    have hg1:=Hga.out.trans (gr_of_below hb1)
    have hL1:=HL.out.keep hg1 (by simp)
    obtain ⟨c1,f1⟩:=hL1.cell
    have HL1:=Lib.hid hL1
    have Hg1:=Lib.hid hg1
    clear hg1 hL1 hb1
    go_wp2_with fail
    refine (hfw _).mono ?_
    rintro e w2 ⟨rfl,hw2⟩
    subst w2
    go_wp2_with fail
    go_ret2
    exact ObjPost.plain po _ rfl Hoc.out.1 Hoc.out.2 (HL1.out.set R) (gr_set (Hg1.out.but (some b)) _ _)
end Go.Proofs.YtfkecmlmnhbmoaaGreatDoor
