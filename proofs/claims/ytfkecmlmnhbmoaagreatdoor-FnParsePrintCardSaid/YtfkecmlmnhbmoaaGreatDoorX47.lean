/- Parts Q7. -/
import Derived.Test.YtfkecmlmnhbmoaaGreatDoorX45
set_option linter.unusedVariables false
set_option linter.unusedSimpArgs false
set_option maxRecDepth 100000
set_option maxHeartbeats 40000000
namespace Go.Proofs.YtfkecmlmnhbmoaaGreatDoor
open Go Go.RowKit Go.Maps Go.Lib
def pcA (ff:Nat→By)(b:Bool)(p:PO):By:=spc (b&&sepA p)++prP ff p
def pcAs (ff:Nat→By):Bool→List PO→List By
 | _,[]=>[]
 | b,p::ps=>pcA ff (!b) p::pcAs ff false ps
theorem a5i (ff:Nat→By):∀(ps:List PO) (b:Bool),(pcAs ff b ps).length=ps.length
 | [],_=>rfl
 | p::ps,b=>by simp[pcAs,a5i ff ps]
theorem a9M (ff:Nat→By):∀(ps:List PO) (b:Bool) (i:Nat) (p:PO),ps[i]?=some p→(pcAs ff b ps)[i]?=some (pcA ff (if i=0 then !b else true) p)
 | [],_,i,p,h=>by simp at h
 | q::ps,b,0,p,h=>by simp at h;subst h;simp[pcAs]
 | q::ps,b,i+1,p,h=>by
  simp only[List.getElem?_cons_succ]at h;simp only[pcAs,List.getElem?_cons_succ];rw[a9M ff ps false i p h];simp
theorem a7V (ff:Nat→By):∀(ps:List PO) (b:Bool),(pcAs ff b ps).flatten=prAs ff b ps
 | [],_=>by simp[pcAs,prAs]
 | p::ps,b=>by simp[pcAs,prAs,pcA,a7V ff ps]
theorem b2C (ff:Nat→By):∀(ps:List PO) (b:Bool) (i:Nat) (p:PO),ps[i]?=some p→(prP ff p).length≤(prAs ff b ps).length
 | [],_,i,p,h=>by simp at h
 | q::ps,b,0,p,h=>by simp at h;subst h;simp[prAs];omega
 | q::ps,b,i+1,p,h=>by
  simp only[List.getElem?_cons_succ]at h;have:=b2C ff ps false i p h;simp[prAs];omega
theorem a8O {ff:Nat→By}{R:Nat→Prop} : ∀(ps:List PO),okRs ff R ps→∀(i:Nat) p,ps[i]?=some p→okR ff R p
 | [],_,i,p,h=>by simp at h
 | q::ps,hh,0,p,h=>by simp only[okRs]at hh;simp at h;subst h;exact hh.1
 | q::ps,hh,i+1,p,h=>by simp only[okRs]at hh;exact a8O ps hh.2 i p (by simpa using h)
theorem a9h:∀(ps:List PO),srPs ps→∀(i:Nat) p,ps[i]?=some p→srP p
 | [],_,i,p,h=>by simp at h
 | q::ps,hh,0,p,h=>by simp only[srPs]at hh;simp at h;subst h;exact hh.1
 | q::ps,hh,i+1,p,h=>by simp only[srPs]at hh;exact a9h ps hh.2 i p (by simpa using h)
theorem b3h {α:Type}{L:List α}{i:Nat}{x:α}(h:L[i]?=some x):L.take (i+1)=L.take i++[x]:=by rw[List.take_add_one,h];rfl
structure PcJ (w wr:World)(L:List By)(i:Nat)(sl:Value):Prop where
 row:wr.ownsRow w.heap.size 9 1 sl i ((L.map encStr).take i)
 grow:w.grownBy wr none
theorem PcJ.step {w wr w2 w7:World}{L:List By}{i:Nat}{so:Option Addr}{sn sc:Nat}{k:By}{v7:Value}{o:Obj}(hJ:PcJ w wr L i (.slice so sn sc))(hg:wr.grownBy w2 none)(hk:L[i]?=some k)(ho:w7.ownsRow w.heap.size 9 1 v7 (i+1) ((L.map encStr).take i++[.string (bs k)]))(hg7:(w2.alloc o).grownBy w7 (Value.slice so sn sc).ownBlock):PcJ w w7 L (i+1) v7:=by
 refine⟨?_,a0g (hJ.grow.trans hg) (a0x hg7) (fun j hj=>(World.ownsRow.lt hJ.row j hj).1)⟩;rw[b3h (x:=encStr k) (by rw[List.getElem?_map,hk];rfl)];exact ho
theorem b9N {w:World}{b:Nat}{e:TypeId}{z:Nat}{so:Option Addr}{sn sc n:Nat}{xs:List Value}(h:w.ownsRow b e z (.slice so sn sc) n xs):sn=n:=by
 rcases h.2 with⟨hnil,h0⟩|⟨g,cap,cur,he,_⟩
 ·injection hnil with e1 e2 e3;omega
 ·injection he
theorem a6I {w:World}{b:Nat}{e:TypeId}{z:Nat}{v:Value}{n:Nat}{xs:List Value}(h:w.ownsRow b e z v n xs):∃so sn sc,v=.slice so sn sc:=by
 rcases h.2 with⟨hnil,h0⟩|⟨g,cap,cur,he,_⟩
 ·exact⟨_,_,_,hnil⟩
 ·exact⟨_,_,_,he⟩
theorem parr (ff:Nat→By)(R:Nat→Prop)(W0:World)(kids:List PO)(hP:∀p∈kids,PrC ff R W0 p):PrC ff R W0 (.arr kids):=by
 intro S w v hO hS hE hok hsr hl hnn;simp only[ObjO]at hO;obtain⟨hkl,sl,cells,rfl,hSl,hOs⟩:=hO;refine⟨sl,rfl,?_⟩;clear hnn;obtain⟨hcl,so0,sc0,rfl,hsc1,hsc2,hcell⟩:=hSl;simp only[prP]at hl;simp only[okR]at hok;simp only[srP]at hsr;obtain⟨N,hN⟩:∃N,N=kids.length:=⟨_,rfl⟩;obtain⟨L,hL⟩:∃L,L=[91]::(pcAs ff true kids++[[93]]):=⟨_,rfl⟩;have hLl:L.length=N+2:=by rw[hL,hN];simp[a5i]
 have hLf:L.flatten=prP ff (.arr kids):=by rw[hL];simp[prP,a7V]
 have hLf2:L.flatten.length≤1000000000:=by rw[hLf];simp only[prP];exact hl
 have hL0:L[0]?=some [91]:=by rw[hL];rfl
 have hLz:L[N+1]?=some [93]:=by rw[hL,hN];simp[List.getElem?_append_right,a5i]
 have hLi:∀(i:Nat) p,kids[i]?=some p→L[i+1]?=some (pcA ff (!(decide (i=0))) p):=by
  intro i p h;have hi:i<(pcAs ff true kids).length:=by rw[a5i];exact(List.getElem?_eq_some_iff.1 h).1
  rw[hL];simp only[List.getElem?_cons_succ];rw[List.getElem?_append_left hi,a9M ff kids true i p h]
  by_cases h0:i=0<;>simp[h0]
 have hpl:∀(i:Nat) p,kids[i]?=some p→(prP ff p).length≤999999998:=by
  intro i p h;have:=b2C ff kids true i p h;simp at hl;omega
 rw[←hN]at hkl hcl hsc1 hcell⊢
 show Calls Tryz.prog 287 #[.slice so0 N sc0] w fun e w'=>e=.returned (.string (bs (prP ff (.arr kids))))∧w.grownBy w' none
 rw[←hLf];obtain⟨HP,HOs,HS,HE,Hok,Hsr,HN,HLl⟩:=xh8 hP hOs hS hE hok hsr hN hLl;obtain⟨HLf2,HL0,HLz,HLi,Hpl,Hcell⟩:=xh6 hLf2 hL0 hLz hLi hpl hcell;obtain⟨ti,hti,htz0,htz1,htz2⟩:=info_parts Tryz.info9;have hb91:(⟨#[91]⟩:ByteArray)=bs [91]:=rfl;have hb93:(⟨#[93]⟩:ByteArray)=bs [93]:=rfl;clear hP hOs hS hE hok hsr hN hL hLl hLf hLf2 hL0 hLz hLi hpl hl hcell hcl;go_enter Tryz.func287,Tryz.ntmps287;have hrow0:(w.alloc (.cells #[] 9)).ownsRow w.heap.size 9 1 (.slice (some ⟨w.heap.size,0,none⟩) 0 0) 0 []:=⟨rfl,.inr ⟨w.heap.size,0,#[],rfl,Nat.le_refl _,heap_alloc_new w _,Nat.le_refl _,by decide,rfl,rfl⟩⟩;have HJ:=xhd (show PcJ w (w.alloc (.cells #[] 9)) L 0 (.slice (some ⟨w.heap.size,0,none⟩) 0 0) from⟨hrow0,a0a (xgr _ _) _⟩);clear hrow0
 go_upto_region 2 with (fail)
 obtain⟨Wa,hWa⟩:∃Wa,Wa=w.alloc (.cells #[] 9):=⟨_,rfl⟩;obtain⟨so1,hso1⟩:∃so1:Option Addr,so1=some ⟨w.heap.size,0,none⟩:=⟨_,rfl⟩;rw[←hWa,←hso1]at HJ⊢;clear hWa hso1
 skip
 go_wp2_with (first|(at_builtin;refine wpList_append_own_at _ rfl _ _ 23 rfl w.heap.size 9 ti _ 1 16 Tryz.underlying23 hti htz0 htz1 htz2 rfl (by decide) _ (0) _ rfl (World.ownsRow.alloc HJ.out.row _) ⟨_,0,none⟩ 1 1 [.string (bs [91])] rfl rfl (cell_one_new _ _ _) (by simp[Value.oneCell']) (by unfold maxLen;omega) (by omega) (by have:=HJ.out.grow.size;simp;omega) ?_))
 intro v7 w7 ho7 hg7 _ hat7
 have hshape:∃gg cap,v7=.slice (some ⟨gg,0,none⟩) (0+1) cap:=by
  rcases ho7.2 with⟨_,h0⟩|⟨gg,cap,cur,h,_⟩
  ·exact absurd h0 (by omega)
  ·exact⟨gg,cap,h⟩
 obtain⟨gg,cap7,rfl⟩:=hshape;have HJ7:=xhd (HJ.out.step (xgr _ _) HL0.out ho7 hg7);clear hg7 ho7 hat7;go_wp2_with fail
 go_loopg [3,4,5,25] N (fun gg t3 t4 t5 t25 wr=>∃i so sn sc,t3=.slice so sn sc∧t4=.bool (decide (i=0))∧(∃s5,t5=.string s5)∧t25=.int .i64 (i:Nat)∧gg=N-i∧i≤N∧PcJ w wr L (i+1) (.slice so sn sc))
 case atStart=>exact⟨0,_,_,_,rfl,rfl,⟨_,rfl⟩,rfl,rfl,Nat.zero_le _,HJ7.out⟩
 case round =>
  clear HJ HJ7 HL0;obtain⟨i,so,sn,sc,rfl,rfl,⟨s5,rfl⟩,rfl,hg,hi,hJ⟩:=hrel;obtain⟨HJ,Hg⟩:=xh2 hJ hg;clear hJ hg
  by_cases hiN:i<N
  ·have hnm:(i:Int)<N:=by omega
   have hwi:IntKind.i64.wrap ((i:Int)+1)=(i:Int)+1:=IntWalk.i64_in _ (by omega);obtain⟨p,hp⟩:∃p,kids[i]?=some p:=⟨_,List.getElem?_eq_getElem (by rw[←HN.out];exact hiN)⟩;obtain⟨v,hv,hOv⟩:=a0J.get kids cells HOs.out i p hp
   obtain⟨b0,j0,hso0,hSb,hcc⟩:∃b j,so0=some ⟨b,j,none⟩∧S b∧∀m u,cells[m]?=some u→w.cell? ⟨b,j+m,none⟩=some u:=by
    rcases Hcell.out with h|h
    ·omega
    ·exact h
   subst hso0;have hblk:∀k,S k→wr.heap[k]?=w.heap[k]?:=fun k hk=>HJ.out.grow.block k (HS.out k hk) (by simp);have hcell:=(World.cell?_of_block (a:=⟨b0,j0+i,none⟩) (hblk b0 hSb)).trans (hcc i v hv);have HOv:=xhd (ObjO.keep (S':=S) (fun k hk=>⟨hk,hblk k hk⟩) _ _ hOv);have Hki:=xhd (HLi.out i p hp);have Hpp:=xhd hp;have Hlp:=xhd (Hpl.out i p hp);have hcall:=fun (hpn:p≠.null) (w2:World) (hg2:wr.grownBy w2 none)=>HP.out p (List.mem_of_getElem? hp) S w2 v (ObjO.keep (S':=S) (fun k hk=>⟨hk,hg2.block k (Nat.lt_of_lt_of_le (HS.out k hk) HJ.out.grow.size) (by simp)⟩) _ _ HOv.out) (fun k hk=>Nat.lt_of_lt_of_le (Nat.lt_of_lt_of_le (HS.out k hk) HJ.out.grow.size) hg2.size) (HE.out.grown0 (HJ.out.grow.trans hg2)) (a8O kids Hok.out i p hp) (a9h kids Hsr.out i p hp) (by have:=Hlp.out;omega) hpn;have Hcall:=xhd hcall;clear hcall hblk hcc hv hp hOv hSb;obtain⟨fb,hfb⟩:∃fb,fb=decide (i=0):=⟨_,rfl⟩;rw[←hfb]at Hki⊢;clear hfb
   go_upto_if 29 with (fail)
   go_cut [4,5] from 29 to 29 (fun t4 t5 wx=>t4=.bool false∧t5=.string (bs (spc (!fb)))∧wr=wx)
   case first =>
    cases fb
    all_goals
     go_wp2_with fail
     go_meet
     case rel=>exact⟨rfl,rfl,rfl⟩
   obtain⟨rfl,rfl,rfl⟩:=hcut;have Hsz:=xhd (a0f (spc (!fb)));have hsz:(spc (!fb)).length≤1:=by cases fb<;>simp[spc]
   have Hsl:=xhd hsz;clear hsz;have hrf:(decide (i+1=0))=false:=by simp
   by_cases hpn:p=.null
   ·subst hpn
    have hO:=HOv.out;simp only[ObjO]at hO;subst hO;have hnul:(⟨#[110,117,108,108]⟩:ByteArray)=bs [110,117,108,108]:=rfl;have ha:bs (spc (!fb))++bs [110,117,108,108]=bs (pcA ff (!fb) .null):=by rw[a2n];simp[pcA,sepA,prP,a3x]
    have hz1:¬9223372036854775807<(bs (spc (!fb))).size+(bs [110,117,108,108]).size:=by rw[a0f,a0f];have:=Hsl.out;simp;omega
    obtain⟨kk,hkk⟩:∃kk,kk=pcA ff (!fb) .null:=⟨_,rfl⟩;rw[←hkk]at ha Hki;clear hkk;generalize bs (spc (!fb))=sp at *;clear Hcall;have Hg2:=xhd (xgr wr none)
    skip
    have Hrow2:=xhd (a0P HJ.out.row Hg2.out (fun k hk=>by simp));have Hsz2:=xhd (Nat.le_trans HJ.out.grow.size Hg2.out.size);go_wp2_with (first|(at_builtin;refine wpList_append_own_at _ rfl _ _ 23 rfl w.heap.size 9 ti _ 1 16 Tryz.underlying23 hti htz0 htz1 htz2 rfl (by decide) _ (i+1) _ rfl (World.ownsRow.alloc Hrow2.out _) ⟨_,0,none⟩ 1 1 [.string (bs kk)] rfl rfl (cell_one_new _ _ _) (by simp[Value.oneCell']) (by unfold maxLen;omega) (by omega) (by have:=Hsz2.out;simp;omega) ?_))
    intro v7 w7 ho7 hg7 _ hat7;have HJ7:=xhd (HJ.out.step Hg2.out Hki.out ho7 hg7);obtain⟨so7,sn7,sc7,rfl⟩:=a6I ho7;clear hg7 ho7 hat7;go_wp2_with fail
    go_roundg (N-(i+1))
    case measure=>rw[Hg.out];omega
    case rel=>exact⟨i+1,_,_,_,rfl,by simp,⟨_,rfl⟩,by simp,rfl,by omega,HJ7.out⟩
   ·by_cases href:∃n g,p=.ref n g
    ·obtain⟨n,g,rfl⟩:=href
     obtain⟨u,hvu,hc⟩:=Hcall.out (by simp) (wr.alloc (.cells #[.int .i64 n,.int .i64 g] 73)) (a0a (xgr _ _) _);have hvu':v=.iface 73 u:=hvu;subst hvu';clear hvu;have hO:=HOv.out;simp only[ObjO]at hO;injection hO with hO1 hO2;subst hO2;have ha:bs (spc (!fb))++bs (prP ff (.ref n g))=bs (pcA ff (!fb) (.ref n g)):=by rw[a2n];simp[pcA,sepA]
     have hz1:¬9223372036854775807<(bs (spc (!fb))).size+(bs (prP ff (.ref n g))).size:=by rw[a0f,a0f];have:=Hsl.out;have:=Hlp.out;omega
     obtain⟨kk,hkk⟩:∃kk,kk=pcA ff (!fb) (.ref n g):=⟨_,rfl⟩;rw[←hkk]at ha Hki;generalize bs (spc (!fb))=sp at *;generalize bs (prP ff (.ref n g))=zp at *;have Hc:=xhd (show Calls Tryz.prog 285 _ _ _ from hc);clear hc hkk Hcall HOv Hlp
     skip
     go_wp2_with fail
     refine Hc.out.mono ?_;rintro e w2⟨rfl,hg2⟩;have Hg2:=xhd (World.grownBy.trans (a0a (xgr _ _) _) hg2);clear hg2
     skip
     have Hrow2:=xhd (a0P HJ.out.row Hg2.out (fun k hk=>by simp));have Hsz2:=xhd (Nat.le_trans HJ.out.grow.size Hg2.out.size);go_wp2_with (first|(at_builtin;refine wpList_append_own_at _ rfl _ _ 23 rfl w.heap.size 9 ti _ 1 16 Tryz.underlying23 hti htz0 htz1 htz2 rfl (by decide) _ (i+1) _ rfl (World.ownsRow.alloc Hrow2.out _) ⟨_,0,none⟩ 1 1 [.string (bs kk)] rfl rfl (cell_one_new _ _ _) (by simp[Value.oneCell']) (by unfold maxLen;omega) (by omega) (by have:=Hsz2.out;simp;omega) ?_))
     intro v7 w7 ho7 hg7 _ hat7;have HJ7:=xhd (HJ.out.step Hg2.out Hki.out ho7 hg7);obtain⟨so7,sn7,sc7,rfl⟩:=a6I ho7;clear hg7 ho7 hat7;go_wp2_with fail
     go_roundg (N-(i+1))
     case measure=>rw[Hg.out];omega
     case rel=>exact⟨i+1,_,_,_,rfl,by simp,⟨_,rfl⟩,by simp,rfl,by omega,HJ7.out⟩
    ·obtain⟨u,hvu,hc⟩:=Hcall.out hpn wr (xgr _ _)
     subst hvu;obtain⟨T,hT⟩:∃T,T=tyP p:=⟨_,rfl⟩;obtain⟨F,hF⟩:∃F,F=fnP p:=⟨_,rfl⟩;rw[←hF]at hc;rw[←hT]
     have key:(sepA p=true∧bs (spc (!fb))++bs (prP ff p)=bs (pcA ff (!fb) p)∧¬9223372036854775807<(bs (spc (!fb))).size+(bs (prP ff p)).size)∨(sepA p=false∧bs (prP ff p)=bs (pcA ff (!fb) p)):=by
      rcases xbt (sepA p) with hsa|hsa
      ·exact .inl ⟨hsa,by rw[a2n];simp[pcA,hsa],by rw[a0f,a0f];have:=Hsl.out;have:=Hlp.out;omega⟩
      ·exact .inr ⟨hsa,by simp[pcA,hsa,spc]⟩
     obtain⟨kk,hkk⟩:∃kk,kk=pcA ff (!fb) p:=⟨_,rfl⟩;obtain⟨zp,hzp⟩:∃z,z=bs (prP ff p):=⟨_,rfl⟩;rw[←hkk,←hzp]at key;rw[←hkk]at Hki;rw[←hzp]at hc;generalize bs (spc (!fb))=sp at *;have Hc:=xhd hc;clear hc hkk hzp Hcall HOv Hlp;rcases key with⟨hsa,ha,hz1⟩|⟨hsa,rfl⟩
     all_goals cases p
     all_goals try exact absurd rfl hpn
     all_goals try exact absurd ⟨_,_,rfl⟩ href
     all_goals try (simp[sepA]at hsa;done)
     all_goals
      simp only[tyP]at hT;simp only[fnP]at hF;subst hT;subst hF;clear hsa hpn href
      skip
      go_wp2_with fail
      refine Hc.out.mono ?_;rintro e w2⟨rfl,hg2⟩;have Hg2:=xhd (World.grownBy.trans (xgr _ _) hg2);clear hg2
      skip
      have Hrow2:=xhd (a0P HJ.out.row Hg2.out (fun k hk=>by simp));have Hsz2:=xhd (Nat.le_trans HJ.out.grow.size Hg2.out.size);go_wp2_with (first|(at_builtin;refine wpList_append_own_at _ rfl _ _ 23 rfl w.heap.size 9 ti _ 1 16 Tryz.underlying23 hti htz0 htz1 htz2 rfl (by decide) _ (i+1) _ rfl (World.ownsRow.alloc Hrow2.out _) ⟨_,0,none⟩ 1 1 [.string (bs kk)] rfl rfl (cell_one_new _ _ _) (by simp[Value.oneCell']) (by unfold maxLen;omega) (by omega) (by have:=Hsz2.out;simp;omega) ?_))
      intro v7 w7 ho7 hg7 _ hat7;have HJ7:=xhd (HJ.out.step Hg2.out Hki.out ho7 hg7);obtain⟨so7,sn7,sc7,rfl⟩:=a6I ho7;clear hg7 ho7 hat7;go_wp2_with fail
      go_roundg (N-(i+1))
      case measure=>rw[Hg.out];omega
      case rel=>exact⟨i+1,_,_,_,rfl,by simp,⟨_,rfl⟩,by simp,rfl,by omega,HJ7.out⟩
  ·obtain rfl:i=N:=by omega
   have hnm:¬(i:Int)<i:=by omega
   skip
   go_wp2_with (first|(at_builtin;refine wpList_append_own_at _ rfl _ _ 23 rfl w.heap.size 9 ti _ 1 16 Tryz.underlying23 hti htz0 htz1 htz2 rfl (by decide) _ (i+1) _ rfl (World.ownsRow.alloc HJ.out.row _) ⟨_,0,none⟩ 1 1 [.string (bs [93])] rfl rfl (cell_one_new _ _ _) (by simp[Value.oneCell']) (by unfold maxLen;omega) (by omega) (by have:=HJ.out.grow.size;simp;omega) ?_))
   intro v7 w7 ho7 hg7 _ hat7
   have hshape:∃gg cap,v7=.slice (some ⟨gg,0,none⟩) (i+1+1) cap:=by
    rcases ho7.2 with⟨_,h0⟩|⟨gg,cap,cur,h,_⟩
    ·exact absurd h0 (by omega)
    ·exact⟨gg,cap,h⟩
   obtain⟨gg,cap7,rfl⟩:=hshape;have HJ7:=xhd (HJ.out.step (xgr _ _) HLz.out ho7 hg7);clear hg7 ho7 hat7;have hjn:=a9E L w.heap.size (some ⟨gg,0,none⟩) (i+2) cap7 w7 (by have:=HJ7.out.row;rw[List.take_of_length_le (by rw[List.length_map,HLl.out];exact Nat.le_refl _)]at this;rw[HLl.out];exact this) (by rw[HLl.out];omega) (by have:=HLf2.out;omega);have Hjn:=xhd hjn;clear hjn;go_wp2_with fail
   refine Hjn.out.mono ?_;rintro e w8⟨rfl,hg8⟩;have Hg8:=xhd hg8;clear hg8;go_wp2_with fail
   go_ret;exact⟨rfl,HJ7.out.grow.trans Hg8.out⟩
end Go.Proofs.YtfkecmlmnhbmoaaGreatDoor
