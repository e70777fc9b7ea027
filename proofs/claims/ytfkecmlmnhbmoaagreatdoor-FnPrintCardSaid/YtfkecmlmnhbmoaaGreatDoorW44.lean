/- Parts Q7 E1. -/
import Derived.Test.YtfkecmlmnhbmoaaGreatDoorW43
set_option linter.unusedVariables false
set_option linter.unusedSimpArgs false
set_option maxRecDepth 100000
set_option maxHeartbeats 40000000
namespace Go.Proofs.YtfkecmlmnhbmoaaGreatDoor
open Go Go.RowKit Go.Maps Go.Lib
def pcA (ff:Nat→By)(b:Bool)(p:PO):By:=spc (b&&sepA p)++prP ff p
def pcAs (ff:Nat→By):Bool→List PO→List By
 | _,[]=>[]
 | b,p::ps=>pcA ff (!b) p::pcAs ff false ps
theorem pcAs_len (ff:Nat→By):∀(ps:List PO) (b:Bool),(pcAs ff b ps).length=ps.length
 | [],_=>rfl
 | p::ps,b=>by simp[pcAs,pcAs_len ff ps]
theorem pcAs_get (ff:Nat→By):∀(ps:List PO) (b:Bool) (i:Nat) (p:PO),ps[i]?=some p→(pcAs ff b ps)[i]?=some (pcA ff (if i=0 then !b else true) p)
 | [],_,i,p,h=>by simp at h
 | q::ps,b,0,p,h=>by simp at h;subst h;simp[pcAs]
 | q::ps,b,i+1,p,h=>by
  simp only[List.getElem?_cons_succ]at h;simp only[pcAs,List.getElem?_cons_succ];rw[pcAs_get ff ps false i p h];simp
theorem pcAs_flat (ff:Nat→By):∀(ps:List PO) (b:Bool),(pcAs ff b ps).flatten=prAs ff b ps
 | [],_=>by simp[pcAs,prAs]
 | p::ps,b=>by simp[pcAs,prAs,pcA,pcAs_flat ff ps]
theorem prAs_le (ff:Nat→By):∀(ps:List PO) (b:Bool) (i:Nat) (p:PO),ps[i]?=some p→(prP ff p).length≤(prAs ff b ps).length
 | [],_,i,p,h=>by simp at h
 | q::ps,b,0,p,h=>by simp at h;subst h;simp[prAs];omega
 | q::ps,b,i+1,p,h=>by
  simp only[List.getElem?_cons_succ]at h;have:=prAs_le ff ps false i p h;simp[prAs];omega
theorem okRs_at {ff:Nat→By}{R:Nat→Prop} : ∀(ps:List PO),okRs ff R ps→∀(i:Nat) p,ps[i]?=some p→okR ff R p
 | [],_,i,p,h=>by simp at h
 | q::ps,hh,0,p,h=>by simp only[okRs]at hh;simp at h;subst h;exact hh.1
 | q::ps,hh,i+1,p,h=>by simp only[okRs]at hh;exact okRs_at ps hh.2 i p (by simpa using h)
theorem srPs_at:∀(ps:List PO),srPs ps→∀(i:Nat) p,ps[i]?=some p→srP p
 | [],_,i,p,h=>by simp at h
 | q::ps,hh,0,p,h=>by simp only[srPs]at hh;simp at h;subst h;exact hh.1
 | q::ps,hh,i+1,p,h=>by simp only[srPs]at hh;exact srPs_at ps hh.2 i p (by simpa using h)
theorem take_snoc {α:Type}{L:List α}{i:Nat}{x:α}(h:L[i]?=some x):L.take (i+1)=L.take i++[x]:=by rw[List.take_add_one,h];rfl
structure PcJ (w wr:World)(L:List By)(i:Nat)(sl:Value):Prop where
 row:wr.ownsRow w.heap.size 9 1 sl i ((L.map encStr).take i)
 grow:w.grownBy wr none
theorem PcJ.step {w wr w2 w7:World}{L:List By}{i:Nat}{so:Option Addr}{sn sc:Nat}{k:By}{v7:Value}{o:Obj}(hJ:PcJ w wr L i (.slice so sn sc))(hg:wr.grownBy w2 none)(hk:L[i]?=some k)(ho:w7.ownsRow w.heap.size 9 1 v7 (i+1) ((L.map encStr).take i++[.string (bs k)]))(hg7:(w2.alloc o).grownBy w7 (Value.slice so sn sc).ownBlock):PcJ w w7 L (i+1) v7:=by
 refine⟨?_,gr_noneThen (hJ.grow.trans hg) (gr_alloc_then hg7) (fun j hj=>(World.ownsRow.lt hJ.row j hj).1)⟩;rw[take_snoc (x:=encStr k) (by rw[List.getElem?_map,hk];rfl)];exact ho
theorem row_sn {w:World}{b:Nat}{e:TypeId}{z:Nat}{so:Option Addr}{sn sc n:Nat}{xs:List Value}(h:w.ownsRow b e z (.slice so sn sc) n xs):sn=n:=by
 rcases h.2 with⟨hnil,h0⟩|⟨g,cap,cur,he,_⟩
 ·injection hnil with e1 e2 e3;omega
 ·injection he
theorem row_sl {w:World}{b:Nat}{e:TypeId}{z:Nat}{v:Value}{n:Nat}{xs:List Value}(h:w.ownsRow b e z v n xs):∃so sn sc,v=.slice so sn sc:=by
 rcases h.2 with⟨hnil,h0⟩|⟨g,cap,cur,he,_⟩
 ·exact⟨_,_,_,hnil⟩
 ·exact⟨_,_,_,he⟩
theorem parr (ff:Nat→By)(R:Nat→Prop)(W0:World)(kids:List PO)(hP:∀p∈kids,PrC ff R W0 p):PrC ff R W0 (.arr kids):=by
 intro S w v hO hS hE hok hsr hl hnn;simp only[ObjO]at hO;obtain⟨hkl,sl,cells,rfl,hSl,hOs⟩:=hO;refine⟨sl,rfl,?_⟩;clear hnn;obtain⟨hcl,so0,sc0,rfl,hsc1,hsc2,hcell⟩:=hSl;simp only[prP]at hl;simp only[okR]at hok;simp only[srP]at hsr;obtain⟨N,hN⟩:∃N,N=kids.length:=⟨_,rfl⟩;obtain⟨L,hL⟩:∃L,L=[91]::(pcAs ff true kids++[[93]]):=⟨_,rfl⟩;have hLl:L.length=N+2:=by rw[hL,hN];simp[pcAs_len]
 have hLf:L.flatten=prP ff (.arr kids):=by rw[hL];simp[prP,pcAs_flat]
 have hLf2:L.flatten.length≤1000000000:=by rw[hLf];simp only[prP];exact hl
 have hL0:L[0]?=some [91]:=by rw[hL];rfl
 have hLz:L[N+1]?=some [93]:=by rw[hL,hN];simp[List.getElem?_append_right,pcAs_len]
 have hLi:∀(i:Nat) p,kids[i]?=some p→L[i+1]?=some (pcA ff (!(decide (i=0))) p):=by
  intro i p h;have hi:i<(pcAs ff true kids).length:=by rw[pcAs_len];exact(List.getElem?_eq_some_iff.1 h).1
  rw[hL];simp only[List.getElem?_cons_succ];rw[List.getElem?_append_left hi,pcAs_get ff kids true i p h]
  by_cases h0:i=0<;>simp[h0]
 have hpl:∀(i:Nat) p,kids[i]?=some p→(prP ff p).length≤999999998:=by
  intro i p h;have:=prAs_le ff kids true i p h;simp at hl;omega
 rw[←hN]at hkl hcl hsc1 hcell⊢
 show Calls Tryz.prog 287 #[.slice so0 N sc0] w fun e w'=>e=.returned (.string (bs (prP ff (.arr kids))))∧w.grownBy w' none
 rw[←hLf];obtain⟨HP,HOs,HS,HE,Hok,Hsr,HN,HLl⟩:=xh8 hP hOs hS hE hok hsr hN hLl;obtain⟨HLf2,HL0,HLz,HLi,Hpl,Hcell⟩:=xh6 hLf2 hL0 hLz hLi hpl hcell;obtain⟨ti,hti,htz0,htz1,htz2⟩:=info_parts Tryz.info9;have hb91:(⟨#[91]⟩:ByteArray)=bs [91]:=rfl;have hb93:(⟨#[93]⟩:ByteArray)=bs [93]:=rfl;clear hP hOs hS hE hok hsr hN hL hLl hLf hLf2 hL0 hLz hLi hpl hl hcell hcl;go_enter Tryz.func287,Tryz.ntmps287;have hrow0:(w.alloc (.cells #[] 9)).ownsRow w.heap.size 9 1 (.slice (some ⟨w.heap.size,0,none⟩) 0 0) 0 []:=⟨rfl,.inr ⟨w.heap.size,0,#[],rfl,Nat.le_refl _,heap_alloc_new w _,Nat.le_refl _,by decide,rfl,rfl⟩⟩;have HJ:=xhd (show PcJ w (w.alloc (.cells #[] 9)) L 0 (.slice (some ⟨w.heap.size,0,none⟩) 0 0) from⟨hrow0,gr_alloc (xgr _ _) _⟩);clear hrow0
 go_upto_region 2 with (fail)
 obtain⟨Wa,hWa⟩:∃Wa,Wa=w.alloc (.cells #[] 9):=⟨_,rfl⟩;obtain⟨so1,hso1⟩:∃so1:Option Addr,so1=some ⟨w.heap.size,0,none⟩:=⟨_,rfl⟩;rw[←hWa,←hso1]at HJ⊢;clear hWa hso1
 skip
 go_wp2_with (first|(at_builtin;refine wpList_append_own_at _ rfl _ _ 23 rfl w.heap.size 9 ti _ 1 16 Tryz.underlying23 hti htz0 htz1 htz2 rfl (by decide) _ (0) _ rfl (World.ownsRow.alloc HJ.out.row _) ⟨_,0,none⟩ 1 1 [.string (bs [91])] rfl rfl (cell_one_new _ _ _) (by simp[Value.oneCell']) (by unfold maxLen;omega) (by omega) (by have:=HJ.out.grow.size;simp;omega) ?_))
 intro v7 w7 ho7 hg7 _ hat7
 have hshape:∃gg cap,v7=.slice (some ⟨gg,0,none⟩) (0+1) cap:=by
  rcases ho7.2 with⟨_,h0⟩|⟨gg,cap,cur,h,_⟩
  ·exact absurd h0 (by omega)
  ·exact⟨gg,cap,h⟩
 obtain⟨gg,cap7,rfl⟩:=hshape;have HJ7:=xhd (HJ.out.step (xgr _ _) HL0.out ho7 hg7);clear hg7 ho7 hat7;go_wp2_with fail
 go_loopg [3,4,5,25] N (fun gg t3 t4 t5 t25 wr=>∃i so sn sc,t3=.slice so sn sc∧t4=.bool (decide (i=0))∧(∃s5,t5=.string s5)∧t25=.int .i64 (i:Nat)∧gg=N-i∧i≤N∧PcJ w wr L (i+1) (.slice so sn sc))
 case atStart=>exact⟨0,_,_,_,rfl,rfl,⟨_,rfl⟩,rfl,rfl,Nat.zero_le _,HJ7.out⟩
 case round =>
  clear HJ HJ7 HL0;obtain⟨i,so,sn,sc,rfl,rfl,⟨s5,rfl⟩,rfl,hg,hi,hJ⟩:=hrel;obtain⟨HJ,Hg⟩:=xh2 hJ hg;clear hJ hg
  by_cases hiN:i<N
  ·have hnm:(i:Int)<N:=by omega
   have hwi:IntKind.i64.wrap ((i:Int)+1)=(i:Int)+1:=IntWalk.i64_in _ (by omega);obtain⟨p,hp⟩:∃p,kids[i]?=some p:=⟨_,List.getElem?_eq_getElem (by rw[←HN.out];exact hiN)⟩;obtain⟨v,hv,hOv⟩:=ObjOs.get kids cells HOs.out i p hp
   obtain⟨b0,j0,hso0,hSb,hcc⟩:∃b j,so0=some ⟨b,j,none⟩∧S b∧∀m u,cells[m]?=some u→w.cell? ⟨b,j+m,none⟩=some u:=by
    rcases Hcell.out with h|h
    ·omega
    ·exact h
   subst hso0;have hblk:∀k,S k→wr.heap[k]?=w.heap[k]?:=fun k hk=>HJ.out.grow.block k (HS.out k hk) (by simp);have hcell:=(World.cell?_of_block (a:=⟨b0,j0+i,none⟩) (hblk b0 hSb)).trans (hcc i v hv);have HOv:=xhd (ObjO.keep (S':=S) (fun k hk=>⟨hk,hblk k hk⟩) _ _ hOv);have Hki:=xhd (HLi.out i p hp);have Hpp:=xhd hp;have Hlp:=xhd (Hpl.out i p hp);have hcall:=fun (hpn:p≠.null) (w2:World) (hg2:wr.grownBy w2 none)=>HP.out p (List.mem_of_getElem? hp) S w2 v (ObjO.keep (S':=S) (fun k hk=>⟨hk,hg2.block k (Nat.lt_of_lt_of_le (HS.out k hk) HJ.out.grow.size) (by simp)⟩) _ _ HOv.out) (fun k hk=>Nat.lt_of_lt_of_le (Nat.lt_of_lt_of_le (HS.out k hk) HJ.out.grow.size) hg2.size) (HE.out.grown0 (HJ.out.grow.trans hg2)) (okRs_at kids Hok.out i p hp) (srPs_at kids Hsr.out i p hp) (by have:=Hlp.out;omega) hpn;have Hcall:=xhd hcall;clear hcall hblk hcc hv hp hOv hSb;obtain⟨fb,hfb⟩:∃fb,fb=decide (i=0):=⟨_,rfl⟩;rw[←hfb]at Hki⊢;clear hfb
   go_upto_if 29 with (fail)
   go_cut [4,5] from 29 to 29 (fun t4 t5 wx=>t4=.bool false∧t5=.string (bs (spc (!fb)))∧wr=wx)
   case first =>
    cases fb
    all_goals
     go_wp2_with fail
     go_meet
     case rel=>exact⟨rfl,rfl,rfl⟩
   obtain⟨rfl,rfl,rfl⟩:=hcut;have Hsz:=xhd (bs_size (spc (!fb)));have hsz:(spc (!fb)).length≤1:=by cases fb<;>simp[spc]
   have Hsl:=xhd hsz;clear hsz;have hrf:(decide (i+1=0))=false:=by simp
   cases p with
   | null =>
    have hO:=HOv.out;simp only[ObjO]at hO;subst hO;have hnul:(⟨#[110,117,108,108]⟩:ByteArray)=bs [110,117,108,108]:=rfl;have ha:bs (spc (!fb))++bs [110,117,108,108]=bs (pcA ff (!fb) .null):=by rw[bs_app];simp[pcA,sepA,prP,wNull]
    have hz1:¬9223372036854775807<(bs (spc (!fb))).size+(bs [110,117,108,108]).size:=by rw[bs_size,bs_size];have:=Hsl.out;simp;omega
    obtain⟨kk,hkk⟩:∃kk,kk=pcA ff (!fb) .null:=⟨_,rfl⟩;rw[←hkk]at ha Hki;clear hkk;generalize bs (spc (!fb))=sp at *;clear Hcall;have Hg2:=xhd (xgr wr none)
    skip
    have Hrow2:=xhd (row_keptB HJ.out.row Hg2.out (fun k hk=>by simp));have Hsz2:=xhd (Nat.le_trans HJ.out.grow.size Hg2.out.size);go_wp2_with (first|(at_builtin;refine wpList_append_own_at _ rfl _ _ 23 rfl w.heap.size 9 ti _ 1 16 Tryz.underlying23 hti htz0 htz1 htz2 rfl (by decide) _ (i+1) _ rfl (World.ownsRow.alloc Hrow2.out _) ⟨_,0,none⟩ 1 1 [.string (bs kk)] rfl rfl (cell_one_new _ _ _) (by simp[Value.oneCell']) (by unfold maxLen;omega) (by omega) (by have:=Hsz2.out;simp;omega) ?_))
    intro v7 w7 ho7 hg7 _ hat7;have HJ7:=xhd (HJ.out.step Hg2.out Hki.out ho7 hg7);obtain⟨so7,sn7,sc7,rfl⟩:=row_sl ho7;clear hg7 ho7 hat7;go_wp2_with fail
    go_roundg (N-(i+1))
    case measure=>rw[Hg.out];omega
    case rel=>exact⟨i+1,_,_,_,rfl,by simp,⟨_,rfl⟩,by simp,rfl,by omega,HJ7.out⟩
   | bool x =>
    obtain⟨u,hvu,hc⟩:=Hcall.out (by simp) wr (xgr _ _);have hvu':v=.iface 66 u:=hvu;subst hvu';clear hvu;have ha:bs (spc (!fb))++bs (prP ff (.bool x))=bs (pcA ff (!fb) (.bool x)):=by rw[bs_app];simp[pcA,sepA]
    have hz1:¬9223372036854775807<(bs (spc (!fb))).size+(bs (prP ff (.bool x))).size:=by rw[bs_size,bs_size];have:=Hsl.out;have:=Hlp.out;omega
    obtain⟨kk,hkk⟩:∃kk,kk=pcA ff (!fb) (.bool x):=⟨_,rfl⟩;rw[←hkk]at ha Hki;generalize bs (spc (!fb))=sp at *;generalize bs (prP ff (.bool x))=zp at *;have Hc:=xhd (show Calls Tryz.prog 260 _ _ _ from hc);clear hc hkk Hcall HOv Hlp
    skip
    go_wp2_with fail
    refine Hc.out.mono ?_;rintro e w2⟨rfl,hg2⟩;have Hg2:=xhd (World.grownBy.trans (xgr _ _) hg2);clear hg2
    skip
    have Hrow2:=xhd (row_keptB HJ.out.row Hg2.out (fun k hk=>by simp));have Hsz2:=xhd (Nat.le_trans HJ.out.grow.size Hg2.out.size);go_wp2_with (first|(at_builtin;refine wpList_append_own_at _ rfl _ _ 23 rfl w.heap.size 9 ti _ 1 16 Tryz.underlying23 hti htz0 htz1 htz2 rfl (by decide) _ (i+1) _ rfl (World.ownsRow.alloc Hrow2.out _) ⟨_,0,none⟩ 1 1 [.string (bs kk)] rfl rfl (cell_one_new _ _ _) (by simp[Value.oneCell']) (by unfold maxLen;omega) (by omega) (by have:=Hsz2.out;simp;omega) ?_))
    intro v7 w7 ho7 hg7 _ hat7;have HJ7:=xhd (HJ.out.step Hg2.out Hki.out ho7 hg7);obtain⟨so7,sn7,sc7,rfl⟩:=row_sl ho7;clear hg7 ho7 hat7;go_wp2_with fail
    go_roundg (N-(i+1))
    case measure=>rw[Hg.out];omega
    case rel=>exact⟨i+1,_,_,_,rfl,by simp,⟨_,rfl⟩,by simp,rfl,by omega,HJ7.out⟩
   | int n =>
    obtain⟨u,hvu,hc⟩:=Hcall.out (by simp) wr (xgr _ _);have hvu':v=.iface 67 u:=hvu;subst hvu';clear hvu;have ha:bs (spc (!fb))++bs (prP ff (.int n))=bs (pcA ff (!fb) (.int n)):=by rw[bs_app];simp[pcA,sepA]
    have hz1:¬9223372036854775807<(bs (spc (!fb))).size+(bs (prP ff (.int n))).size:=by rw[bs_size,bs_size];have:=Hsl.out;have:=Hlp.out;omega
    obtain⟨kk,hkk⟩:∃kk,kk=pcA ff (!fb) (.int n):=⟨_,rfl⟩;rw[←hkk]at ha Hki;generalize bs (spc (!fb))=sp at *;generalize bs (prP ff (.int n))=zp at *;have Hc:=xhd (show Calls Tryz.prog 265 _ _ _ from hc);clear hc hkk Hcall HOv Hlp
    skip
    go_wp2_with fail
    refine Hc.out.mono ?_;rintro e w2⟨rfl,hg2⟩;have Hg2:=xhd (World.grownBy.trans (xgr _ _) hg2);clear hg2
    skip
    have Hrow2:=xhd (row_keptB HJ.out.row Hg2.out (fun k hk=>by simp));have Hsz2:=xhd (Nat.le_trans HJ.out.grow.size Hg2.out.size);go_wp2_with (first|(at_builtin;refine wpList_append_own_at _ rfl _ _ 23 rfl w.heap.size 9 ti _ 1 16 Tryz.underlying23 hti htz0 htz1 htz2 rfl (by decide) _ (i+1) _ rfl (World.ownsRow.alloc Hrow2.out _) ⟨_,0,none⟩ 1 1 [.string (bs kk)] rfl rfl (cell_one_new _ _ _) (by simp[Value.oneCell']) (by unfold maxLen;omega) (by omega) (by have:=Hsz2.out;simp;omega) ?_))
    intro v7 w7 ho7 hg7 _ hat7;have HJ7:=xhd (HJ.out.step Hg2.out Hki.out ho7 hg7);obtain⟨so7,sn7,sc7,rfl⟩:=row_sl ho7;clear hg7 ho7 hat7;go_wp2_with fail
    go_roundg (N-(i+1))
    case measure=>rw[Hg.out];omega
    case rel=>exact⟨i+1,_,_,_,rfl,by simp,⟨_,rfl⟩,by simp,rfl,by omega,HJ7.out⟩
   | real x =>
    obtain⟨u,hvu,hc⟩:=Hcall.out (by simp) wr (xgr _ _);have hvu':v=.iface 68 u:=hvu;subst hvu';clear hvu;have ha:bs (spc (!fb))++bs (prP ff (.real x))=bs (pcA ff (!fb) (.real x)):=by rw[bs_app];simp[pcA,sepA]
    have hz1:¬9223372036854775807<(bs (spc (!fb))).size+(bs (prP ff (.real x))).size:=by rw[bs_size,bs_size];have:=Hsl.out;have:=Hlp.out;omega
    obtain⟨kk,hkk⟩:∃kk,kk=pcA ff (!fb) (.real x):=⟨_,rfl⟩;rw[←hkk]at ha Hki;generalize bs (spc (!fb))=sp at *;generalize bs (prP ff (.real x))=zp at *;have Hc:=xhd (show Calls Tryz.prog 268 _ _ _ from hc);clear hc hkk Hcall HOv Hlp
    skip
    go_wp2_with fail
    refine Hc.out.mono ?_;rintro e w2⟨rfl,hg2⟩;have Hg2:=xhd (World.grownBy.trans (xgr _ _) hg2);clear hg2
    skip
    have Hrow2:=xhd (row_keptB HJ.out.row Hg2.out (fun k hk=>by simp));have Hsz2:=xhd (Nat.le_trans HJ.out.grow.size Hg2.out.size);go_wp2_with (first|(at_builtin;refine wpList_append_own_at _ rfl _ _ 23 rfl w.heap.size 9 ti _ 1 16 Tryz.underlying23 hti htz0 htz1 htz2 rfl (by decide) _ (i+1) _ rfl (World.ownsRow.alloc Hrow2.out _) ⟨_,0,none⟩ 1 1 [.string (bs kk)] rfl rfl (cell_one_new _ _ _) (by simp[Value.oneCell']) (by unfold maxLen;omega) (by omega) (by have:=Hsz2.out;simp;omega) ?_))
    intro v7 w7 ho7 hg7 _ hat7;have HJ7:=xhd (HJ.out.step Hg2.out Hki.out ho7 hg7);obtain⟨so7,sn7,sc7,rfl⟩:=row_sl ho7;clear hg7 ho7 hat7;go_wp2_with fail
    go_roundg (N-(i+1))
    case measure=>rw[Hg.out];omega
    case rel=>exact⟨i+1,_,_,_,rfl,by simp,⟨_,rfl⟩,by simp,rfl,by omega,HJ7.out⟩
   | lit s =>
    obtain⟨u,hvu,hc⟩:=Hcall.out (by simp) wr (xgr _ _);have hvu':v=.iface 69 u:=hvu;subst hvu';clear hvu;have ha:bs (spc (!fb))++bs (prP ff (.lit s))=bs (pcA ff (!fb) (.lit s)):=by rw[bs_app];simp[pcA,sepA]
    have hz1:¬9223372036854775807<(bs (spc (!fb))).size+(bs (prP ff (.lit s))).size:=by rw[bs_size,bs_size];have:=Hsl.out;have:=Hlp.out;omega
    obtain⟨kk,hkk⟩:∃kk,kk=pcA ff (!fb) (.lit s):=⟨_,rfl⟩;rw[←hkk]at ha Hki;generalize bs (spc (!fb))=sp at *;generalize bs (prP ff (.lit s))=zp at *;have Hc:=xhd (show Calls Tryz.prog 271 _ _ _ from hc);clear hc hkk Hcall HOv Hlp
    skip
    go_wp2_with fail
    refine Hc.out.mono ?_;rintro e w2⟨rfl,hg2⟩;have Hg2:=xhd (World.grownBy.trans (xgr _ _) hg2);clear hg2
    skip
    have Hrow2:=xhd (row_keptB HJ.out.row Hg2.out (fun k hk=>by simp));have Hsz2:=xhd (Nat.le_trans HJ.out.grow.size Hg2.out.size);go_wp2_with (first|(at_builtin;refine wpList_append_own_at _ rfl _ _ 23 rfl w.heap.size 9 ti _ 1 16 Tryz.underlying23 hti htz0 htz1 htz2 rfl (by decide) _ (i+1) _ rfl (World.ownsRow.alloc Hrow2.out _) ⟨_,0,none⟩ 1 1 [.string (bs kk)] rfl rfl (cell_one_new _ _ _) (by simp[Value.oneCell']) (by unfold maxLen;omega) (by omega) (by have:=Hsz2.out;simp;omega) ?_))
    intro v7 w7 ho7 hg7 _ hat7;have HJ7:=xhd (HJ.out.step Hg2.out Hki.out ho7 hg7);obtain⟨so7,sn7,sc7,rfl⟩:=row_sl ho7;clear hg7 ho7 hat7;go_wp2_with fail
    go_roundg (N-(i+1))
    case measure=>rw[Hg.out];omega
    case rel=>exact⟨i+1,_,_,_,rfl,by simp,⟨_,rfl⟩,by simp,rfl,by omega,HJ7.out⟩
   | hexl s =>
    obtain⟨u,hvu,hc⟩:=Hcall.out (by simp) wr (xgr _ _);have hvu':v=.iface 70 u:=hvu;subst hvu';clear hvu;have ha:bs (spc (!fb))++bs (prP ff (.hexl s))=bs (pcA ff (!fb) (.hexl s)):=by rw[bs_app];simp[pcA,sepA]
    have hz1:¬9223372036854775807<(bs (spc (!fb))).size+(bs (prP ff (.hexl s))).size:=by rw[bs_size,bs_size];have:=Hsl.out;have:=Hlp.out;omega
    obtain⟨kk,hkk⟩:∃kk,kk=pcA ff (!fb) (.hexl s):=⟨_,rfl⟩;rw[←hkk]at ha Hki;generalize bs (spc (!fb))=sp at *;generalize bs (prP ff (.hexl s))=zp at *;have Hc:=xhd (show Calls Tryz.prog 274 _ _ _ from hc);clear hc hkk Hcall HOv Hlp
    skip
    go_wp2_with fail
    refine Hc.out.mono ?_;rintro e w2⟨rfl,hg2⟩;have Hg2:=xhd (World.grownBy.trans (xgr _ _) hg2);clear hg2
    skip
    have Hrow2:=xhd (row_keptB HJ.out.row Hg2.out (fun k hk=>by simp));have Hsz2:=xhd (Nat.le_trans HJ.out.grow.size Hg2.out.size);go_wp2_with (first|(at_builtin;refine wpList_append_own_at _ rfl _ _ 23 rfl w.heap.size 9 ti _ 1 16 Tryz.underlying23 hti htz0 htz1 htz2 rfl (by decide) _ (i+1) _ rfl (World.ownsRow.alloc Hrow2.out _) ⟨_,0,none⟩ 1 1 [.string (bs kk)] rfl rfl (cell_one_new _ _ _) (by simp[Value.oneCell']) (by unfold maxLen;omega) (by omega) (by have:=Hsz2.out;simp;omega) ?_))
    intro v7 w7 ho7 hg7 _ hat7;have HJ7:=xhd (HJ.out.step Hg2.out Hki.out ho7 hg7);obtain⟨so7,sn7,sc7,rfl⟩:=row_sl ho7;clear hg7 ho7 hat7;go_wp2_with fail
    go_roundg (N-(i+1))
    case measure=>rw[Hg.out];omega
    case rel=>exact⟨i+1,_,_,_,rfl,by simp,⟨_,rfl⟩,by simp,rfl,by omega,HJ7.out⟩
   | name s =>
    obtain⟨u,hvu,hc⟩:=Hcall.out (by simp) wr (xgr _ _);have hvu':v=.iface 71 u:=hvu;subst hvu';clear hvu;have ha:prP ff (.name s)=pcA ff (!fb) (.name s):=by simp[pcA,sepA,spc]
    rw[ha]at hc;obtain⟨kk,hkk⟩:∃kk,kk=pcA ff (!fb) (.name s):=⟨_,rfl⟩;rw[←hkk]at hc Hki;generalize bs (spc (!fb))=sp at *;clear ha;have Hc:=xhd (show Calls Tryz.prog 277 _ _ _ from hc);clear hc hkk Hcall HOv Hlp
    skip
    go_wp2_with fail
    refine Hc.out.mono ?_;rintro e w2⟨rfl,hg2⟩;have Hg2:=xhd (World.grownBy.trans (xgr _ _) hg2);clear hg2
    skip
    have Hrow2:=xhd (row_keptB HJ.out.row Hg2.out (fun k hk=>by simp));have Hsz2:=xhd (Nat.le_trans HJ.out.grow.size Hg2.out.size);go_wp2_with (first|(at_builtin;refine wpList_append_own_at _ rfl _ _ 23 rfl w.heap.size 9 ti _ 1 16 Tryz.underlying23 hti htz0 htz1 htz2 rfl (by decide) _ (i+1) _ rfl (World.ownsRow.alloc Hrow2.out _) ⟨_,0,none⟩ 1 1 [.string (bs kk)] rfl rfl (cell_one_new _ _ _) (by simp[Value.oneCell']) (by unfold maxLen;omega) (by omega) (by have:=Hsz2.out;simp;omega) ?_))
    intro v7 w7 ho7 hg7 _ hat7;have HJ7:=xhd (HJ.out.step Hg2.out Hki.out ho7 hg7);obtain⟨so7,sn7,sc7,rfl⟩:=row_sl ho7;clear hg7 ho7 hat7;go_wp2_with fail
    go_roundg (N-(i+1))
    case measure=>rw[Hg.out];omega
    case rel=>exact⟨i+1,_,_,_,rfl,by simp,⟨_,rfl⟩,by simp,rfl,by omega,HJ7.out⟩
   | ref n g =>
    obtain⟨u,hvu,hc⟩:=Hcall.out (by simp) (wr.alloc (.cells #[.int .i64 n,.int .i64 g] 73)) (gr_alloc (xgr _ _) _);have hvu':v=.iface 73 u:=hvu;subst hvu';clear hvu;have hO:=HOv.out;simp only[ObjO]at hO;injection hO with hO1 hO2;subst hO2;have ha:bs (spc (!fb))++bs (prP ff (.ref n g))=bs (pcA ff (!fb) (.ref n g)):=by rw[bs_app];simp[pcA,sepA]
    have hz1:¬9223372036854775807<(bs (spc (!fb))).size+(bs (prP ff (.ref n g))).size:=by rw[bs_size,bs_size];have:=Hsl.out;have:=Hlp.out;omega
    obtain⟨kk,hkk⟩:∃kk,kk=pcA ff (!fb) (.ref n g):=⟨_,rfl⟩;rw[←hkk]at ha Hki;generalize bs (spc (!fb))=sp at *;generalize bs (prP ff (.ref n g))=zp at *;have Hc:=xhd (show Calls Tryz.prog 285 _ _ _ from hc);clear hc hkk Hcall HOv Hlp
    skip
    go_wp2_with fail
    refine Hc.out.mono ?_;rintro e w2⟨rfl,hg2⟩;have Hg2:=xhd (World.grownBy.trans (gr_alloc (xgr _ _) _) hg2);clear hg2
    skip
    have Hrow2:=xhd (row_keptB HJ.out.row Hg2.out (fun k hk=>by simp));have Hsz2:=xhd (Nat.le_trans HJ.out.grow.size Hg2.out.size);go_wp2_with (first|(at_builtin;refine wpList_append_own_at _ rfl _ _ 23 rfl w.heap.size 9 ti _ 1 16 Tryz.underlying23 hti htz0 htz1 htz2 rfl (by decide) _ (i+1) _ rfl (World.ownsRow.alloc Hrow2.out _) ⟨_,0,none⟩ 1 1 [.string (bs kk)] rfl rfl (cell_one_new _ _ _) (by simp[Value.oneCell']) (by unfold maxLen;omega) (by omega) (by have:=Hsz2.out;simp;omega) ?_))
    intro v7 w7 ho7 hg7 _ hat7;have HJ7:=xhd (HJ.out.step Hg2.out Hki.out ho7 hg7);obtain⟨so7,sn7,sc7,rfl⟩:=row_sl ho7;clear hg7 ho7 hat7;go_wp2_with fail
    go_roundg (N-(i+1))
    case measure=>rw[Hg.out];omega
    case rel=>exact⟨i+1,_,_,_,rfl,by simp,⟨_,rfl⟩,by simp,rfl,by omega,HJ7.out⟩
   | arr ks =>
    obtain⟨u,hvu,hc⟩:=Hcall.out (by simp) wr (xgr _ _);have hvu':v=.iface 77 u:=hvu;subst hvu';clear hvu;have ha:prP ff (.arr ks)=pcA ff (!fb) (.arr ks):=by simp[pcA,sepA,spc]
    rw[ha]at hc;obtain⟨kk,hkk⟩:∃kk,kk=pcA ff (!fb) (.arr ks):=⟨_,rfl⟩;rw[←hkk]at hc Hki;generalize bs (spc (!fb))=sp at *;clear ha;have Hc:=xhd (show Calls Tryz.prog 287 _ _ _ from hc);clear hc hkk Hcall HOv Hlp
    skip
    go_wp2_with fail
    refine Hc.out.mono ?_;rintro e w2⟨rfl,hg2⟩;have Hg2:=xhd (World.grownBy.trans (xgr _ _) hg2);clear hg2
    skip
    have Hrow2:=xhd (row_keptB HJ.out.row Hg2.out (fun k hk=>by simp));have Hsz2:=xhd (Nat.le_trans HJ.out.grow.size Hg2.out.size);go_wp2_with (first|(at_builtin;refine wpList_append_own_at _ rfl _ _ 23 rfl w.heap.size 9 ti _ 1 16 Tryz.underlying23 hti htz0 htz1 htz2 rfl (by decide) _ (i+1) _ rfl (World.ownsRow.alloc Hrow2.out _) ⟨_,0,none⟩ 1 1 [.string (bs kk)] rfl rfl (cell_one_new _ _ _) (by simp[Value.oneCell']) (by unfold maxLen;omega) (by omega) (by have:=Hsz2.out;simp;omega) ?_))
    intro v7 w7 ho7 hg7 _ hat7;have HJ7:=xhd (HJ.out.step Hg2.out Hki.out ho7 hg7);obtain⟨so7,sn7,sc7,rfl⟩:=row_sl ho7;clear hg7 ho7 hat7;go_wp2_with fail
    go_roundg (N-(i+1))
    case measure=>rw[Hg.out];omega
    case rel=>exact⟨i+1,_,_,_,rfl,by simp,⟨_,rfl⟩,by simp,rfl,by omega,HJ7.out⟩
   | dict ks vs =>
    obtain⟨u,hvu,hc⟩:=Hcall.out (by simp) wr (xgr _ _);have hvu':v=.iface 81 u:=hvu;subst hvu';clear hvu;have ha:prP ff (.dict ks vs)=pcA ff (!fb) (.dict ks vs):=by simp[pcA,sepA,spc]
    rw[ha]at hc;obtain⟨kk,hkk⟩:∃kk,kk=pcA ff (!fb) (.dict ks vs):=⟨_,rfl⟩;rw[←hkk]at hc Hki;generalize bs (spc (!fb))=sp at *;clear ha;have Hc:=xhd (show Calls Tryz.prog 288 _ _ _ from hc);clear hc hkk Hcall HOv Hlp
    skip
    go_wp2_with fail
    refine Hc.out.mono ?_;rintro e w2⟨rfl,hg2⟩;have Hg2:=xhd (World.grownBy.trans (xgr _ _) hg2);clear hg2
    skip
    have Hrow2:=xhd (row_keptB HJ.out.row Hg2.out (fun k hk=>by simp));have Hsz2:=xhd (Nat.le_trans HJ.out.grow.size Hg2.out.size);go_wp2_with (first|(at_builtin;refine wpList_append_own_at _ rfl _ _ 23 rfl w.heap.size 9 ti _ 1 16 Tryz.underlying23 hti htz0 htz1 htz2 rfl (by decide) _ (i+1) _ rfl (World.ownsRow.alloc Hrow2.out _) ⟨_,0,none⟩ 1 1 [.string (bs kk)] rfl rfl (cell_one_new _ _ _) (by simp[Value.oneCell']) (by unfold maxLen;omega) (by omega) (by have:=Hsz2.out;simp;omega) ?_))
    intro v7 w7 ho7 hg7 _ hat7;have HJ7:=xhd (HJ.out.step Hg2.out Hki.out ho7 hg7);obtain⟨so7,sn7,sc7,rfl⟩:=row_sl ho7;clear hg7 ho7 hat7;go_wp2_with fail
    go_roundg (N-(i+1))
    case measure=>rw[Hg.out];omega
    case rel=>exact⟨i+1,_,_,_,rfl,by simp,⟨_,rfl⟩,by simp,rfl,by omega,HJ7.out⟩
  ·obtain rfl:i=N:=by omega
   have hnm:¬(i:Int)<i:=by omega
   skip
   go_wp2_with (first|(at_builtin;refine wpList_append_own_at _ rfl _ _ 23 rfl w.heap.size 9 ti _ 1 16 Tryz.underlying23 hti htz0 htz1 htz2 rfl (by decide) _ (i+1) _ rfl (World.ownsRow.alloc HJ.out.row _) ⟨_,0,none⟩ 1 1 [.string (bs [93])] rfl rfl (cell_one_new _ _ _) (by simp[Value.oneCell']) (by unfold maxLen;omega) (by omega) (by have:=HJ.out.grow.size;simp;omega) ?_))
   intro v7 w7 ho7 hg7 _ hat7
   have hshape:∃gg cap,v7=.slice (some ⟨gg,0,none⟩) (i+1+1) cap:=by
    rcases ho7.2 with⟨_,h0⟩|⟨gg,cap,cur,h,_⟩
    ·exact absurd h0 (by omega)
    ·exact⟨gg,cap,h⟩
   obtain⟨gg,cap7,rfl⟩:=hshape;have HJ7:=xhd (HJ.out.step (xgr _ _) HLz.out ho7 hg7);clear hg7 ho7 hat7;have hjn:=join_any L w.heap.size (some ⟨gg,0,none⟩) (i+2) cap7 w7 (by have:=HJ7.out.row;rw[List.take_of_length_le (by rw[List.length_map,HLl.out];exact Nat.le_refl _)]at this;rw[HLl.out];exact this) (by rw[HLl.out];omega) (by have:=HLf2.out;omega);have Hjn:=xhd hjn;clear hjn;go_wp2_with fail
   refine Hjn.out.mono ?_;rintro e w8⟨rfl,hg8⟩;have Hg8:=xhd hg8;clear hg8;go_wp2_with fail
   go_ret;exact⟨rfl,HJ7.out.grow.trans Hg8.out⟩
end Go.Proofs.YtfkecmlmnhbmoaaGreatDoor
namespace Go.Proofs.YtfkecmlmnhbmoaaGreatDoor
open Go Go.RowKit Go.Maps
mutual
theorem lv_sz:∀x:PV,lvV x≤szV x
 | .arr kids=>by have:=lvs_szs kids;simp only[lvV,szV];omega
 | .dict _ kids=>by have:=lvs_szs kids;simp only[lvV,szV];omega
 | .null | .bool _ | .int _ | .real _ | .str _ | .name _ | .ref _ _=>by simp[lvV,szV]
theorem lvs_szs:∀l:List PV,lvVs l≤szVs l
 | []=>by simp[lvVs]
 | x::xs=>by have:=lv_sz x;have:=lvs_szs xs;simp only[lvVs,szVs];omega
end
theorem modest_all (x:PV)(S:Nat→Prop)(w:World)(ks vs:Value)(hI:IsV S w x ks vs)(hS:∀k,S k→k<w.heap.size) :
  Calls Tryz.prog 8 #[valOf x ks vs] w fun e w'=>MdPost (szV x) (lvV x) e∧w.grownBy w' none:=by
 have hnd:=fun (w2:World) (hg2:w.grownBy w2 none)=>nodes_any _ x S w2 ks vs 5000 (Nat.le_refl _) (by omega) (by omega) (IsV.keep (S':=S) (fun k hk=>⟨hk,hg2.block k (hS k hk) (by simp)⟩) _ _ _ hI) (fun k hk=>Nat.lt_of_lt_of_le (hS k hk) hg2.size);have hlv:=fun (hz:szV x≤5000) (w2:World) (hg2:w.grownBy w2 none)=>levels_any _ (by have:=lv_sz x;omega) x S w2 ks vs (Nat.le_refl _) (IsV.keep (S':=S) (fun k hk=>⟨hk,hg2.block k (hS k hk) (by simp)⟩) _ _ _ hI) (fun k hk=>Nat.lt_of_lt_of_le (hS k hk) hg2.size);obtain⟨⟨ko,kn,kc,rfl⟩,⟨vo,vn,vc,rfl⟩⟩:=hI.slices;unfold valOf NdPost at *;obtain⟨L,hL⟩:∃L,L=lvV x:=⟨_,rfl⟩;obtain⟨Z,hZ⟩:∃Z,Z=szV x:=⟨_,rfl⟩;rw[←hL]at hlv⊢;rw[←hZ]at hnd hlv⊢;generalize pvKind x=k1 at *;generalize pvInt x=k2 at *;generalize pvGen x=k3 at *;generalize pvReal x=k4 at *;generalize (⟨(pvText x).toArray⟩:ByteArray)=k5 at *;obtain⟨Hnd,Hlv⟩:=xh2 hnd hlv;clear hnd hlv hI hS hL hZ;have hbox:=heap_alloc_new w (.cells #[.int .i64 k1,.int .i64 k2,.int .i64 k3,.float .f64 k4,.string k5,.slice ko kn kc,.slice vo vn vc] 30);have hg0:w.grownBy (w.alloc (.cells #[.int .i64 k1,.int .i64 k2,.int .i64 k3,.float .f64 k4,.string k5,.slice ko kn kc,.slice vo vn vc] 30)) none:=gr_alloc (xgr w none) _;obtain⟨W,hW⟩:∃W,W=w.alloc (.cells #[.int .i64 k1,.int .i64 k2,.int .i64 k3,.float .f64 k4,.string k5,.slice ko kn kc,.slice vo vn vc] 30):=⟨_,rfl⟩;rw[←hW]at hbox hg0;obtain⟨Hbox,Hg0⟩:=xh2 hbox hg0;obtain⟨x0,x1,x2,x3,x4,x5,x6,xf⟩:=cells7 hbox;clear hbox hg0;go_enter Tryz.func8,Tryz.ntmps8
 go_wp2_with fail
 rw[←hW];clear hW;go_wp2_with fail
 refine(Hnd.out _ Hg0.out).mono ?_;rintro e w2⟨⟨r,rfl,hr1,hr2,hr3⟩,hg2⟩;have q0:=(hg2.block _ (xgl Hbox.out) (by simp)).trans Hbox.out;clear x0 x1 x2 x3 x4 x5 x6 xf;obtain⟨x0,x1,x2,x3,x4,x5,x6,xf⟩:=cells7 q0;have HG2:=xhd (Hg0.out.trans hg2);have Hr3:=xhd hr3;clear hg2 q0 hr2 hr3
 by_cases h5:r≤5000
 ·go_wp2_with fail
  refine(Hlv.out (by have:=Hr3.out h5;omega) _ HG2.out).mono ?_;rintro e w3⟨rfl,hg3⟩;have HG3:=xhd (HG2.out.trans hg3);clear hg3
  by_cases h40:(L:Int)≤40
  ·go_wp2_with fail
   go_ret;exact⟨⟨true,rfl,fun _=>by have:=Hr3.out h5;omega⟩,HG3.out⟩
  ·go_wp2_with fail
   go_ret;exact⟨⟨_,rfl,fun h=>absurd (of_decide_eq_true h) (by omega)⟩,HG3.out⟩
 ·go_wp2_with fail
  go_ret;exact⟨⟨false,rfl,fun h=>absurd h (by simp)⟩,HG2.out⟩
end Go.Proofs.YtfkecmlmnhbmoaaGreatDoor
