/- Parts Q8. -/
import Derived.Test.YtfkecmlmnhbmoaaGreatDoorW44
set_option linter.unusedVariables false
set_option linter.unusedSimpArgs false
set_option maxRecDepth 100000
set_option maxHeartbeats 40000000
namespace Go.Proofs.YtfkecmlmnhbmoaaGreatDoor
open Go Go.RowKit Go.Maps Go.Lib Go.Sort
def pcD (ff:Nat→By)(k:By)(p:PO):By:=47::(encN k++(spc (sepD p)++prP ff p))
def pcDs (ff:Nat→By):List By→List PO→List By
 | k::ks,p::ps=>pcD ff k p::pcDs ff ks ps
 | [],_=>[]
 | _::_,[]=>[]
theorem pcDs_len (ff:Nat→By):∀(ks:List By) (ps:List PO),ks.length=ps.length→(pcDs ff ks ps).length=ps.length
 | [],[],_=>rfl
 | k::ks,p::ps,h=>by simp at h;simp[pcDs,pcDs_len ff ks ps h]
 | [],_::_,h=>by simp at h
 | _::_,[],h=>by simp at h
theorem pcDs_get (ff:Nat→By):∀(ks:List By) (ps:List PO) (i:Nat) (k:By) (p:PO),ks[i]?=some k→ps[i]?=some p→(pcDs ff ks ps)[i]?=some (pcD ff k p)
 | [],_,i,k,p,h,_=>by simp at h
 | _::_,[],i,k,p,_,h=>by simp at h
 | k'::ks,q::ps,0,k,p,h1,h2=>by simp at h1 h2;subst h1;subst h2;simp[pcDs]
 | k'::ks,q::ps,i+1,k,p,h1,h2=>by
  simp only[List.getElem?_cons_succ]at h1 h2;simp only[pcDs,List.getElem?_cons_succ];exact pcDs_get ff ks ps i k p h1 h2
theorem pcDs_flat (ff:Nat→By):∀(ks:List By) (ps:List PO),(pcDs ff ks ps).flatten=prDs ff ks ps
 | [],_=>by simp[pcDs,prDs]
 | _::_,[]=>by simp[pcDs,prDs]
 | k::ks,p::ps=>by simp[pcDs,prDs,pcD,pcDs_flat ff ks ps]
theorem prDs_le (ff:Nat→By):∀(ks:List By) (ps:List PO) (i:Nat) (k:By) (p:PO),ks[i]?=some k→ps[i]?=some p→(pcD ff k p).length≤(prDs ff ks ps).length
 | [],_,i,k,p,h,_=>by simp at h
 | _::_,[],i,k,p,_,h=>by simp at h
 | k'::ks,q::ps,0,k,p,h1,h2=>by simp at h1 h2;subst h1;subst h2;simp[prDs,pcD]<;>omega
 | k'::ks,q::ps,i+1,k,p,h1,h2=>by
  simp only[List.getElem?_cons_succ]at h1 h2;have:=prDs_le ff ks ps i k p h1 h2;simp[prDs];omega
theorem sort_self {ks:List By}(h:ks.Pairwise (· < ·)):ks.mergeSort leBy=ks :=
 List.mergeSort_of_pairwise (h.imp fun {a b} hab=>by simp only[leBy,decide_eq_true_eq];exact List.le_of_lt hab)
theorem PcJ.keep {w wr w2:World}{L:List By}{i:Nat}{sl:Value}(h:PcJ w wr L i sl)(hg:wr.grownBy w2 none):PcJ w w2 L i sl:=⟨row_keptB h.row hg (fun k hk=>by simp),h.grow.trans hg⟩
structure PdJ (w wr:World)(L:List By)(i:Nat)(sl:Value)(pk:List By)(ko:Option Addr):Prop where
 pc:PcJ w wr L i sl
 keys:∀(j:Nat) k,pk[j]?=some k→∃g0,ko=some ⟨g0,0,none⟩∧g0<wr.heap.size∧sl.ownBlock≠some g0∧wr.cell? ⟨g0,j,none⟩=some (.string (bs k))
theorem PdJ.step {w wr w2 w7:World}{L pk:List By}{ko:Option Addr}{i:Nat}{so:Option Addr}{sn sc:Nat}{k:By}{v7:Value}{o:Obj}(hJ:PdJ w wr L i (.slice so sn sc) pk ko)(hg:wr.grownBy w2 none)(hk:L[i]?=some k)(ho:w7.ownsRow w.heap.size 9 1 v7 (i+1) ((L.map encStr).take i++[.string (bs k)]))(hg7:(w2.alloc o).grownBy w7 (Value.slice so sn sc).ownBlock)(hat:v7.ownBlock=(Value.slice so sn sc).ownBlock∨v7.ownBlock=some (w2.heap.size+1)):PdJ w w7 L (i+1) v7 pk ko:=by
 refine⟨hJ.pc.step hg hk ho hg7,fun j q hq=>?_⟩;obtain⟨g0,e0,h1,h2,h3⟩:=hJ.keys j q hq;have s1:=hg.size;have s2:=hg7.size;simp at s2;refine⟨g0,e0,by omega,?_,?_⟩
 ·rcases hat with h|h
  ·rw[h];exact h2
  ·rw[h]
   intro e;injection e with e;omega
 ·have b1:=hg.block g0 h1 (by simp)
  have b2:=(gr_alloc_then hg7).block g0 (by omega) (fun e=>h2 e.symm);exact(World.cell?_of_block (a:=⟨g0,j,none⟩) (b2.trans b1)).trans h3
theorem pdict (ff:Nat→By)(R:Nat→Prop)(W0:World)(pk:List By)(kids:List PO)(hP:∀p∈kids,PrC ff R W0 p):PrC ff R W0 (.dict pk kids):=by
 intro S w v hO hS hE hok hsr hl hnn;simp only[ObjO]at hO;obtain⟨hKO,db,cells,rfl,hSdb,hD,hOs⟩:=hO;refine⟨.map (some db),rfl,?_⟩;clear hnn;obtain⟨hkl0,hnd,D,hown,hhas,hat⟩:=hD;simp only[prP]at hl;simp only[okR]at hok;simp only[srP]at hsr;obtain⟨N,hN⟩:∃N,N=pk.length:=⟨_,rfl⟩;have hNk:kids.length=N:=by rw[hN];exact hok.1.symm
 have hkl:N≤1000000:=by rw[hN];exact hKO.1
 obtain⟨L,hL⟩:∃L,L=[60,60]::(pcDs ff pk kids++[[62,62]]):=⟨_,rfl⟩;have hLl:L.length=N+2:=by rw[hL];simp[pcDs_len ff pk kids hok.1,hNk]
 have hLf:L.flatten=prP ff (.dict pk kids):=by rw[hL];simp[prP,pcDs_flat]
 have hLf2:L.flatten.length≤1000000000:=by rw[hLf];simp only[prP];exact hl
 have hL0:L[0]?=some [60,60]:=by rw[hL];rfl
 have hLz:L[N+1]?=some [62,62]:=by rw[hL,←hNk];simp[List.getElem?_append_right,pcDs_len ff pk kids hok.1]
 have hLi:∀(i:Nat) k p,pk[i]?=some k→kids[i]?=some p→L[i+1]?=some (pcD ff k p):=by
  intro i k p h0 h;have hi:i<(pcDs ff pk kids).length:=by rw[pcDs_len ff pk kids hok.1];exact(List.getElem?_eq_some_iff.1 h).1
  rw[hL];simp only[List.getElem?_cons_succ];rw[List.getElem?_append_left hi,pcDs_get ff pk kids i k p h0 h]
 have hpl:∀(i:Nat) k p,pk[i]?=some k→kids[i]?=some p→(prP ff p).length+(encN k).length≤999999995:=by
  intro i k p h0 h;have h1:=prDs_le ff pk kids i k p h0 h;simp[pcD]at h1;simp at hl;omega
 rw[←hN]at hown
 show Calls Tryz.prog 288 #[.map (some db)] w fun e w'=>e=.returned (.string (bs (prP ff (.dict pk kids))))∧w.grownBy w' none
 rw[←hLf];have hdb:=hown.lt;obtain⟨HP,HOs,HS,HE,Hok,Hsr,HN,HNk⟩:=xh8 hP hOs hS hE hok hsr hN hNk;obtain⟨HLl,HLf2,HL0,HLz,HLi,Hpl,HKO,Hnd⟩:=xh8 hLl hLf2 hL0 hLz hLi hpl hKO hnd;obtain⟨Hhas,Hat,Hown0⟩:=xh3 hhas hat hown;have hsz:=hown.size_le;obtain⟨ti,hti,htz0,htz1,htz2⟩:=info_parts Tryz.info9;have hb91:(⟨#[60,60]⟩:ByteArray)=bs [60,60]:=rfl;have hb93:(⟨#[62,62]⟩:ByteArray)=bs [62,62]:=rfl;have hb47:(⟨#[47]⟩:ByteArray)=bs [47]:=rfl;have hb32:(⟨#[32]⟩:ByteArray)=bs [32]:=rfl;have hbnl:(⟨#[32,110,117,108,108]⟩:ByteArray)=bs [32,110,117,108,108]:=rfl;clear hP hOs hS hE hok hsr hN hNk hL hLl hLf hLf2 hL0 hLz hLi hpl hl hKO hnd hhas hat hown hkl0;go_enter Tryz.func288,Tryz.ntmps288;have hrow0:(w.alloc (.cells #[] 9)).ownsRow w.heap.size 9 1 (.slice (some ⟨w.heap.size,0,none⟩) 0 0) 0 []:=⟨rfl,.inr ⟨w.heap.size,0,#[],rfl,Nat.le_refl _,heap_alloc_new w _,Nat.le_refl _,by decide,rfl,rfl⟩⟩;have HJ:=xhd (show PcJ w (w.alloc (.cells #[] 9)) L 0 (.slice (some ⟨w.heap.size,0,none⟩) 0 0) from⟨hrow0,gr_alloc (xgr _ _) _⟩);clear hrow0
 go_upto_region 2 with (fail)
 obtain⟨Wa,hWa⟩:∃Wa,Wa=w.alloc (.cells #[] 9):=⟨_,rfl⟩;obtain⟨so1,hso1⟩:∃so1:Option Addr,so1=some ⟨w.heap.size,0,none⟩:=⟨_,rfl⟩;rw[←hWa,←hso1]at HJ⊢;clear hWa hso1
 skip
 go_wp2_with (first|(at_builtin;refine wpList_append_own_at _ rfl _ _ 23 rfl w.heap.size 9 ti _ 1 16 Tryz.underlying23 hti htz0 htz1 htz2 rfl (by decide) _ (0) _ rfl (World.ownsRow.alloc HJ.out.row _) ⟨_,0,none⟩ 1 1 [.string (bs [60,60])] rfl rfl (cell_one_new _ _ _) (by simp[Value.oneCell']) (by unfold maxLen;omega) (by omega) (by have:=HJ.out.grow.size;simp;omega) ?_))
 intro v7 w7 ho7 hg7 _ hat7
 have hshape:∃gg cap,v7=.slice (some ⟨gg,0,none⟩) (0+1) cap:=by
  rcases ho7.2 with⟨_,h0⟩|⟨gg,cap,cur,h,_⟩
  ·exact absurd h0 (by omega)
  ·exact⟨gg,cap,h⟩
 obtain⟨gg,cap7,rfl⟩:=hshape;have HJ7:=xhd (HJ.out.step (xgr _ _) HL0.out ho7 hg7);clear hg7 ho7 hat7 HJ HL0;have hown7:=Hown0.out.kept HJ7.out.grow (by simp)
 go_wp2_with (first
  | (at_range;refine wpList_range_own _ rfl _ 81 rfl 9 50 keyed9 Tryz.underlying81 RV db N D rfl hown7 ?_))
 intro w1 hrg1 hg1 hs1;obtain⟨Hg1,Hs1⟩:=xh2 hg1 hs1;clear hown7 hg1 hs1;go_wp2_with fail
 go_loopg [4] (Maps.size D) (fun g t4 wr=>∃left ss ko kn kc,t4=.slice ko kn kc∧wr.ranges Tryz.prog 9 RV db w7.heap.size N D left g∧Collected D left ss∧ss.length+g≤N∧wr.ownsRow (w7.heap.size+1) 9 1 (.slice ko kn kc) ss.length (ss.map encStr)∧w7.grownBy wr none)
 case atStart =>
  exact⟨_,[],none,0,0,rfl,hrg1,Collected.start D,by simpa using hsz,World.ownsRow_nil _ _ _ _,Hg1.out⟩
 case round =>
  clear hrg1;obtain⟨left,ss,ko,kn,kc,rfl,hrg,hCo,hlen,hrow,hG⟩:=hrel;obtain⟨HCo,Hlen,Hrow,HG⟩:=xh4 hCo hlen hrow hG;clear hCo hlen hrow hG
  go_wp2_with (first
   | (at_next;refine wpList_next_ranges _ rfl _ rfl 9 keyed9 RV encStr (fun v:Value=>v) (fun key kl hk=>by obtain⟨x,hx,_⟩:=Maps.keyOf_str Tryz.underlying9 hk;exact⟨x,hx⟩) (fun v y hv=>⟨v,rfl⟩) db w7.heap.size N _ _ _ rfl hrg ?_ ?_))
  ·intro hc0 hl0
   have hperm:ss.Perm pk:=by
    refine(List.perm_ext_iff_of_nodup HCo.out.1 Hnd.out).2 fun x=>?_;rw[HCo.out.2 x,Hhas.out,hl0];simp
   have hss:ss.length=N:=by rw[HN.out];exact hperm.length_eq
   have hms:ss.mergeSort leBy=pk:=(mergeSort_of_perm hperm).trans (sort_self Hsr.out.1);have hsort:=sort_row Hrow.out (by omega);rw[hms,hss]at hsort;have Hdbo:=xhd (show ∀k,(Value.slice ko kn kc).ownBlock=some k→w7.heap.size+1≤k∧k<wr.heap.size from World.ownsRow.lt Hrow.out);have Hsort:=xhd hsort;clear hperm hss hms hl0 hrg hsort;go_wp2_with fail
   refine Hsort.out.mono ?_;rintro e w2⟨rfl,hg2,hrow2⟩;have hkn:kn=N:=row_sn hrow2;subst hkn;have hG2:w7.grownBy w2 none:=gr_noneThen HG.out hg2 (fun k hk=>by have:=Hdbo.out k hk;omega)
   have hJ2:PdJ w w2 L 1 (.slice (some ⟨gg,0,none⟩) (0+1) cap7) pk ko:=by
    refine⟨HJ7.out.keep hG2,fun j k hk=>?_⟩;rcases hrow2.2 with⟨hnil,h0⟩|⟨g,cap,cur,he,hbase,hb,h1,h2,h3,h4⟩
    ·have:=(List.getElem?_eq_some_iff.1 hk).1
     have:=HN.out;omega
    ·injection he with e1 e2 e3
     have hlt:=World.ownsRow.lt HJ7.out.row gg rfl;refine⟨g,e1,(xgl hb),fun e=>?_,?_⟩
     ·have e:gg=g:=by simpa[Value.ownBlock] using e
      omega
     ·rw[e1]at hrow2
      have:=World.ownsRow.cells hrow2 (g:=g) rfl j (encStr k) (by rw[List.getElem?_map,hk];rfl);have e:(⟨g,0,none⟩:Addr).add j=⟨g,j,none⟩:=by unfold Addr.add;split<;>simp_all
      rw[e]at this;exact this
   have HJ2:=xhd hJ2;clear hJ2 hg2 hrow2 hG2 Hsort HJ7 Hdbo Hrow Hlen HCo HG;go_wp2_with fail
   go_loopg [3,39] kn (fun g t3 t39 wr=>∃i so sn sc,t3=.slice so sn sc∧t39=.int .i64 (i:Nat)∧g=kn-i∧i≤kn∧PdJ w wr L (i+1) (.slice so sn sc) pk ko)
   case atStart=>exact⟨0,_,_,_,rfl,rfl,rfl,Nat.zero_le _,HJ2.out⟩
   case round =>
    clear HJ2;obtain⟨i,so,sn,sc,rfl,rfl,hg,hi,hJ⟩:=hrel;obtain⟨HJ,Hg⟩:=xh2 hJ hg;clear hJ hg
    by_cases hiN:i<kn
    ·have hnm:(i:Int)<kn:=by omega
     have hwi:IntKind.i64.wrap ((i:Int)+1)=(i:Int)+1:=IntWalk.i64_in _ (by omega);obtain⟨k,hk⟩:∃k,pk[i]?=some k:=⟨_,List.getElem?_eq_getElem (by rw[←HN.out];exact hiN)⟩;obtain⟨p,hp⟩:∃p,kids[i]?=some p:=⟨_,List.getElem?_eq_getElem (by rw[HNk.out];exact hiN)⟩;obtain⟨v,hv,hOv⟩:=ObjOs.get kids cells HOs.out i p hp;obtain⟨g0,rfl,hg0l,hg0n,hcell⟩:=HJ.out.keys i k hk;have hklen:=HKO.out.2 k (List.mem_of_getElem? hk);have hblk:∀k,S k→wr.heap[k]?=w.heap[k]?:=fun k hk=>HJ.out.pc.grow.block k (HS.out k hk) (by simp);have hownr:=Hown0.out.kept HJ.out.pc.grow (by simp);obtain⟨v',ps',hlk,hRv⟩:=hownr.lookup keyed9 Tryz.underlying81 (zero50 wr) (zd:=.held .nilIface) (zp:=[]) rfl (key9 k (by unfold maxLen;omega))
     have hvv:v'=v:=by
      rw[Hat.out i k v hk hv]at hRv;have h1:DataW.held v'=DataW.held v:=congrArg Prod.fst (Option.some.inj hRv);injection h1
     subst hvv;have HOv:=xhd (ObjO.keep (S':=S) (fun k hk=>⟨hk,hblk k hk⟩) _ _ hOv);have Hki:=xhd (HLi.out i k p hk hp);have Hlp:=xhd (Hpl.out i k p hk hp);have hcall:=fun (hpn:p≠.null) (w2:World) (hg2:wr.grownBy w2 none)=>HP.out p (List.mem_of_getElem? hp) S w2 v' (ObjO.keep (S':=S) (fun k hk=>⟨hk,hg2.block k (Nat.lt_of_lt_of_le (HS.out k hk) HJ.out.pc.grow.size) (by simp)⟩) _ _ HOv.out) (fun k hk=>Nat.lt_of_lt_of_le (Nat.lt_of_lt_of_le (HS.out k hk) HJ.out.pc.grow.size) hg2.size) (HE.out.grown0 (HJ.out.pc.grow.trans hg2)) (okRs_at kids Hok.out.2.2.2 i p hp) (srPs_at kids Hsr.out.2 i p hp) (by have:=Hlp.out;omega) hpn;have Hcall:=xhd hcall;have Henc:=xhd (encname_any k (by omega) wr);clear hcall hblk hv hp hOv hownr hRv hklen hk hg0l hg0n;go_wp2_with fail
     refine Henc.out.mono ?_;rintro e w1e⟨rfl,hgE⟩;have HgE:=xhd hgE;clear hgE Henc hlk hcell;have a1:bs [47]++bs (encN k)=bs (47::encN k):=bs_app _ _;have z1:¬9223372036854775807<(bs [47]).size+(bs (encN k)).size:=by rw[bs_size,bs_size];have:=Hlp.out;simp;omega
     cases p with
     | null =>
      have hO:=HOv.out;simp only[ObjO]at hO;subst hO;have a2:bs (47::encN k)++bs [32,110,117,108,108]=bs (pcD ff k .null):=by rw[bs_app];simp[pcD,sepD,prP,wNull,spc]
      have z2:¬9223372036854775807<(bs (47::encN k)).size+(bs [32,110,117,108,108]).size:=by rw[bs_size,bs_size];have:=Hlp.out;simp;omega
      obtain⟨kk,hkk⟩:∃kk,kk=pcD ff k .null:=⟨_,rfl⟩;rw[←hkk]at a2 Hki;clear hkk;generalize bs (47::encN k)=zk at *;generalize bs (encN k)=ze at *;clear Hcall;have Hg2:=xhd HgE.out
      skip
      have Hrow2:=xhd (row_keptB HJ.out.pc.row Hg2.out (fun k hk=>by simp));have Hsz2:=xhd (Nat.le_trans HJ.out.pc.grow.size Hg2.out.size);go_wp2_with (first|(at_builtin;refine wpList_append_own_at _ rfl _ _ 23 rfl w.heap.size 9 ti _ 1 16 Tryz.underlying23 hti htz0 htz1 htz2 rfl (by decide) _ (i+1) _ rfl (World.ownsRow.alloc Hrow2.out _) ⟨_,0,none⟩ 1 1 [.string (bs kk)] rfl rfl (cell_one_new _ _ _) (by simp[Value.oneCell']) (by unfold maxLen;omega) (by omega) (by have:=Hsz2.out;simp;omega) ?_))
      intro v9 w9 ho9 hg9 _ hat9;have HJ9:=xhd (HJ.out.step Hg2.out Hki.out ho9 hg9 hat9);obtain⟨so9,sn9,sc9,rfl⟩:=row_sl ho9;clear ho9 hg9 hat9;go_wp2_with fail
      go_roundg (kn-(i+1))
      case measure=>rw[Hg.out];omega
      case rel=>exact⟨i+1,_,_,_,rfl,by simp,rfl,by omega,HJ9.out⟩
     | bool x =>
      obtain⟨u,hvu,hc⟩:=Hcall.out (by simp) w1e HgE.out;have hvu':v'=.iface 66 u:=hvu;subst hvu';clear hvu;have a2:bs (47::encN k)++bs [32]=bs (47::(encN k++[32])):=bs_app _ _;have z2:¬9223372036854775807<(bs (47::encN k)).size+(bs [32]).size:=by rw[bs_size,bs_size];have:=Hlp.out;simp;omega
      have a3:bs (47::(encN k++[32]))++bs (prP ff (.bool x))=bs (pcD ff k (.bool x)):=by rw[bs_app];simp[pcD,sepD,spc]
      have z3:¬9223372036854775807<(bs (47::(encN k++[32]))).size+(bs (prP ff (.bool x))).size:=by rw[bs_size,bs_size];have:=Hlp.out;simp;omega
      obtain⟨kk,hkk⟩:∃kk,kk=pcD ff k (.bool x):=⟨_,rfl⟩;rw[←hkk]at a3 Hki;generalize bs (prP ff (.bool x))=zp at *;generalize bs (47::(encN k++[32]))=zs at *;generalize bs (47::encN k)=zk at *;generalize bs (encN k)=ze at *;have Hc:=xhd (show Calls Tryz.prog 260 _ _ _ from hc);clear hc hkk Hcall HOv Hlp
      skip
      go_wp2_with fail
      refine Hc.out.mono ?_;rintro e w2⟨rfl,hg2⟩;have Hg2:=xhd (World.grownBy.trans (HgE.out) hg2);clear hg2
      skip
      have Hrow2:=xhd (row_keptB HJ.out.pc.row Hg2.out (fun k hk=>by simp));have Hsz2:=xhd (Nat.le_trans HJ.out.pc.grow.size Hg2.out.size);go_wp2_with (first|(at_builtin;refine wpList_append_own_at _ rfl _ _ 23 rfl w.heap.size 9 ti _ 1 16 Tryz.underlying23 hti htz0 htz1 htz2 rfl (by decide) _ (i+1) _ rfl (World.ownsRow.alloc Hrow2.out _) ⟨_,0,none⟩ 1 1 [.string (bs kk)] rfl rfl (cell_one_new _ _ _) (by simp[Value.oneCell']) (by unfold maxLen;omega) (by omega) (by have:=Hsz2.out;simp;omega) ?_))
      intro v9 w9 ho9 hg9 _ hat9;have HJ9:=xhd (HJ.out.step Hg2.out Hki.out ho9 hg9 hat9);obtain⟨so9,sn9,sc9,rfl⟩:=row_sl ho9;clear ho9 hg9 hat9;go_wp2_with fail
      go_roundg (kn-(i+1))
      case measure=>rw[Hg.out];omega
      case rel=>exact⟨i+1,_,_,_,rfl,by simp,rfl,by omega,HJ9.out⟩
     | int n =>
      obtain⟨u,hvu,hc⟩:=Hcall.out (by simp) w1e HgE.out;have hvu':v'=.iface 67 u:=hvu;subst hvu';clear hvu;have a2:bs (47::encN k)++bs [32]=bs (47::(encN k++[32])):=bs_app _ _;have z2:¬9223372036854775807<(bs (47::encN k)).size+(bs [32]).size:=by rw[bs_size,bs_size];have:=Hlp.out;simp;omega
      have a3:bs (47::(encN k++[32]))++bs (prP ff (.int n))=bs (pcD ff k (.int n)):=by rw[bs_app];simp[pcD,sepD,spc]
      have z3:¬9223372036854775807<(bs (47::(encN k++[32]))).size+(bs (prP ff (.int n))).size:=by rw[bs_size,bs_size];have:=Hlp.out;simp;omega
      obtain⟨kk,hkk⟩:∃kk,kk=pcD ff k (.int n):=⟨_,rfl⟩;rw[←hkk]at a3 Hki;generalize bs (prP ff (.int n))=zp at *;generalize bs (47::(encN k++[32]))=zs at *;generalize bs (47::encN k)=zk at *;generalize bs (encN k)=ze at *;have Hc:=xhd (show Calls Tryz.prog 265 _ _ _ from hc);clear hc hkk Hcall HOv Hlp
      skip
      go_wp2_with fail
      refine Hc.out.mono ?_;rintro e w2⟨rfl,hg2⟩;have Hg2:=xhd (World.grownBy.trans (HgE.out) hg2);clear hg2
      skip
      have Hrow2:=xhd (row_keptB HJ.out.pc.row Hg2.out (fun k hk=>by simp));have Hsz2:=xhd (Nat.le_trans HJ.out.pc.grow.size Hg2.out.size);go_wp2_with (first|(at_builtin;refine wpList_append_own_at _ rfl _ _ 23 rfl w.heap.size 9 ti _ 1 16 Tryz.underlying23 hti htz0 htz1 htz2 rfl (by decide) _ (i+1) _ rfl (World.ownsRow.alloc Hrow2.out _) ⟨_,0,none⟩ 1 1 [.string (bs kk)] rfl rfl (cell_one_new _ _ _) (by simp[Value.oneCell']) (by unfold maxLen;omega) (by omega) (by have:=Hsz2.out;simp;omega) ?_))
      intro v9 w9 ho9 hg9 _ hat9;have HJ9:=xhd (HJ.out.step Hg2.out Hki.out ho9 hg9 hat9);obtain⟨so9,sn9,sc9,rfl⟩:=row_sl ho9;clear ho9 hg9 hat9;go_wp2_with fail
      go_roundg (kn-(i+1))
      case measure=>rw[Hg.out];omega
      case rel=>exact⟨i+1,_,_,_,rfl,by simp,rfl,by omega,HJ9.out⟩
     | real x =>
      obtain⟨u,hvu,hc⟩:=Hcall.out (by simp) w1e HgE.out;have hvu':v'=.iface 68 u:=hvu;subst hvu';clear hvu;have a2:bs (47::encN k)++bs [32]=bs (47::(encN k++[32])):=bs_app _ _;have z2:¬9223372036854775807<(bs (47::encN k)).size+(bs [32]).size:=by rw[bs_size,bs_size];have:=Hlp.out;simp;omega
      have a3:bs (47::(encN k++[32]))++bs (prP ff (.real x))=bs (pcD ff k (.real x)):=by rw[bs_app];simp[pcD,sepD,spc]
      have z3:¬9223372036854775807<(bs (47::(encN k++[32]))).size+(bs (prP ff (.real x))).size:=by rw[bs_size,bs_size];have:=Hlp.out;simp;omega
      obtain⟨kk,hkk⟩:∃kk,kk=pcD ff k (.real x):=⟨_,rfl⟩;rw[←hkk]at a3 Hki;generalize bs (prP ff (.real x))=zp at *;generalize bs (47::(encN k++[32]))=zs at *;generalize bs (47::encN k)=zk at *;generalize bs (encN k)=ze at *;have Hc:=xhd (show Calls Tryz.prog 268 _ _ _ from hc);clear hc hkk Hcall HOv Hlp
      skip
      go_wp2_with fail
      refine Hc.out.mono ?_;rintro e w2⟨rfl,hg2⟩;have Hg2:=xhd (World.grownBy.trans (HgE.out) hg2);clear hg2
      skip
      have Hrow2:=xhd (row_keptB HJ.out.pc.row Hg2.out (fun k hk=>by simp));have Hsz2:=xhd (Nat.le_trans HJ.out.pc.grow.size Hg2.out.size);go_wp2_with (first|(at_builtin;refine wpList_append_own_at _ rfl _ _ 23 rfl w.heap.size 9 ti _ 1 16 Tryz.underlying23 hti htz0 htz1 htz2 rfl (by decide) _ (i+1) _ rfl (World.ownsRow.alloc Hrow2.out _) ⟨_,0,none⟩ 1 1 [.string (bs kk)] rfl rfl (cell_one_new _ _ _) (by simp[Value.oneCell']) (by unfold maxLen;omega) (by omega) (by have:=Hsz2.out;simp;omega) ?_))
      intro v9 w9 ho9 hg9 _ hat9;have HJ9:=xhd (HJ.out.step Hg2.out Hki.out ho9 hg9 hat9);obtain⟨so9,sn9,sc9,rfl⟩:=row_sl ho9;clear ho9 hg9 hat9;go_wp2_with fail
      go_roundg (kn-(i+1))
      case measure=>rw[Hg.out];omega
      case rel=>exact⟨i+1,_,_,_,rfl,by simp,rfl,by omega,HJ9.out⟩
     | lit s =>
      obtain⟨u,hvu,hc⟩:=Hcall.out (by simp) w1e HgE.out;have hvu':v'=.iface 69 u:=hvu;subst hvu';clear hvu;have a3:bs (47::encN k)++bs (prP ff (.lit s))=bs (pcD ff k (.lit s)):=by rw[bs_app];simp[pcD,sepD,spc]
      have z3:¬9223372036854775807<(bs (47::encN k)).size+(bs (prP ff (.lit s))).size:=by rw[bs_size,bs_size];have:=Hlp.out;simp;omega
      obtain⟨kk,hkk⟩:∃kk,kk=pcD ff k (.lit s):=⟨_,rfl⟩;rw[←hkk]at a3 Hki;generalize bs (prP ff (.lit s))=zp at *;generalize bs (47::encN k)=zk at *;generalize bs (encN k)=ze at *;have Hc:=xhd (show Calls Tryz.prog 271 _ _ _ from hc);clear hc hkk Hcall HOv Hlp
      skip
      go_wp2_with fail
      refine Hc.out.mono ?_;rintro e w2⟨rfl,hg2⟩;have Hg2:=xhd (World.grownBy.trans (HgE.out) hg2);clear hg2
      skip
      have Hrow2:=xhd (row_keptB HJ.out.pc.row Hg2.out (fun k hk=>by simp));have Hsz2:=xhd (Nat.le_trans HJ.out.pc.grow.size Hg2.out.size);go_wp2_with (first|(at_builtin;refine wpList_append_own_at _ rfl _ _ 23 rfl w.heap.size 9 ti _ 1 16 Tryz.underlying23 hti htz0 htz1 htz2 rfl (by decide) _ (i+1) _ rfl (World.ownsRow.alloc Hrow2.out _) ⟨_,0,none⟩ 1 1 [.string (bs kk)] rfl rfl (cell_one_new _ _ _) (by simp[Value.oneCell']) (by unfold maxLen;omega) (by omega) (by have:=Hsz2.out;simp;omega) ?_))
      intro v9 w9 ho9 hg9 _ hat9;have HJ9:=xhd (HJ.out.step Hg2.out Hki.out ho9 hg9 hat9);obtain⟨so9,sn9,sc9,rfl⟩:=row_sl ho9;clear ho9 hg9 hat9;go_wp2_with fail
      go_roundg (kn-(i+1))
      case measure=>rw[Hg.out];omega
      case rel=>exact⟨i+1,_,_,_,rfl,by simp,rfl,by omega,HJ9.out⟩
     | hexl s =>
      obtain⟨u,hvu,hc⟩:=Hcall.out (by simp) w1e HgE.out;have hvu':v'=.iface 70 u:=hvu;subst hvu';clear hvu;have a3:bs (47::encN k)++bs (prP ff (.hexl s))=bs (pcD ff k (.hexl s)):=by rw[bs_app];simp[pcD,sepD,spc]
      have z3:¬9223372036854775807<(bs (47::encN k)).size+(bs (prP ff (.hexl s))).size:=by rw[bs_size,bs_size];have:=Hlp.out;simp;omega
      obtain⟨kk,hkk⟩:∃kk,kk=pcD ff k (.hexl s):=⟨_,rfl⟩;rw[←hkk]at a3 Hki;generalize bs (prP ff (.hexl s))=zp at *;generalize bs (47::encN k)=zk at *;generalize bs (encN k)=ze at *;have Hc:=xhd (show Calls Tryz.prog 274 _ _ _ from hc);clear hc hkk Hcall HOv Hlp
      skip
      go_wp2_with fail
      refine Hc.out.mono ?_;rintro e w2⟨rfl,hg2⟩;have Hg2:=xhd (World.grownBy.trans (HgE.out) hg2);clear hg2
      skip
      have Hrow2:=xhd (row_keptB HJ.out.pc.row Hg2.out (fun k hk=>by simp));have Hsz2:=xhd (Nat.le_trans HJ.out.pc.grow.size Hg2.out.size);go_wp2_with (first|(at_builtin;refine wpList_append_own_at _ rfl _ _ 23 rfl w.heap.size 9 ti _ 1 16 Tryz.underlying23 hti htz0 htz1 htz2 rfl (by decide) _ (i+1) _ rfl (World.ownsRow.alloc Hrow2.out _) ⟨_,0,none⟩ 1 1 [.string (bs kk)] rfl rfl (cell_one_new _ _ _) (by simp[Value.oneCell']) (by unfold maxLen;omega) (by omega) (by have:=Hsz2.out;simp;omega) ?_))
      intro v9 w9 ho9 hg9 _ hat9;have HJ9:=xhd (HJ.out.step Hg2.out Hki.out ho9 hg9 hat9);obtain⟨so9,sn9,sc9,rfl⟩:=row_sl ho9;clear ho9 hg9 hat9;go_wp2_with fail
      go_roundg (kn-(i+1))
      case measure=>rw[Hg.out];omega
      case rel=>exact⟨i+1,_,_,_,rfl,by simp,rfl,by omega,HJ9.out⟩
     | name s =>
      obtain⟨u,hvu,hc⟩:=Hcall.out (by simp) w1e HgE.out;have hvu':v'=.iface 71 u:=hvu;subst hvu';clear hvu;have a3:bs (47::encN k)++bs (prP ff (.name s))=bs (pcD ff k (.name s)):=by rw[bs_app];simp[pcD,sepD,spc]
      have z3:¬9223372036854775807<(bs (47::encN k)).size+(bs (prP ff (.name s))).size:=by rw[bs_size,bs_size];have:=Hlp.out;simp;omega
      obtain⟨kk,hkk⟩:∃kk,kk=pcD ff k (.name s):=⟨_,rfl⟩;rw[←hkk]at a3 Hki;generalize bs (prP ff (.name s))=zp at *;generalize bs (47::encN k)=zk at *;generalize bs (encN k)=ze at *;have Hc:=xhd (show Calls Tryz.prog 277 _ _ _ from hc);clear hc hkk Hcall HOv Hlp
      skip
      go_wp2_with fail
      refine Hc.out.mono ?_;rintro e w2⟨rfl,hg2⟩;have Hg2:=xhd (World.grownBy.trans (HgE.out) hg2);clear hg2
      skip
      have Hrow2:=xhd (row_keptB HJ.out.pc.row Hg2.out (fun k hk=>by simp));have Hsz2:=xhd (Nat.le_trans HJ.out.pc.grow.size Hg2.out.size);go_wp2_with (first|(at_builtin;refine wpList_append_own_at _ rfl _ _ 23 rfl w.heap.size 9 ti _ 1 16 Tryz.underlying23 hti htz0 htz1 htz2 rfl (by decide) _ (i+1) _ rfl (World.ownsRow.alloc Hrow2.out _) ⟨_,0,none⟩ 1 1 [.string (bs kk)] rfl rfl (cell_one_new _ _ _) (by simp[Value.oneCell']) (by unfold maxLen;omega) (by omega) (by have:=Hsz2.out;simp;omega) ?_))
      intro v9 w9 ho9 hg9 _ hat9;have HJ9:=xhd (HJ.out.step Hg2.out Hki.out ho9 hg9 hat9);obtain⟨so9,sn9,sc9,rfl⟩:=row_sl ho9;clear ho9 hg9 hat9;go_wp2_with fail
      go_roundg (kn-(i+1))
      case measure=>rw[Hg.out];omega
      case rel=>exact⟨i+1,_,_,_,rfl,by simp,rfl,by omega,HJ9.out⟩
     | ref n g =>
      obtain⟨u,hvu,hc⟩:=Hcall.out (by simp) (w1e.alloc (.cells #[.int .i64 n,.int .i64 g] 73)) (gr_alloc HgE.out _);have hvu':v'=.iface 73 u:=hvu;subst hvu';clear hvu;have hO:=HOv.out;simp only[ObjO]at hO;injection hO with hO1 hO2;subst hO2;have a2:bs (47::encN k)++bs [32]=bs (47::(encN k++[32])):=bs_app _ _;have z2:¬9223372036854775807<(bs (47::encN k)).size+(bs [32]).size:=by rw[bs_size,bs_size];have:=Hlp.out;simp;omega
      have a3:bs (47::(encN k++[32]))++bs (prP ff (.ref n g))=bs (pcD ff k (.ref n g)):=by rw[bs_app];simp[pcD,sepD,spc]
      have z3:¬9223372036854775807<(bs (47::(encN k++[32]))).size+(bs (prP ff (.ref n g))).size:=by rw[bs_size,bs_size];have:=Hlp.out;simp;omega
      obtain⟨kk,hkk⟩:∃kk,kk=pcD ff k (.ref n g):=⟨_,rfl⟩;rw[←hkk]at a3 Hki;generalize bs (prP ff (.ref n g))=zp at *;generalize bs (47::(encN k++[32]))=zs at *;generalize bs (47::encN k)=zk at *;generalize bs (encN k)=ze at *;have Hc:=xhd (show Calls Tryz.prog 285 _ _ _ from hc);clear hc hkk Hcall HOv Hlp
      skip
      go_wp2_with fail
      refine Hc.out.mono ?_;rintro e w2⟨rfl,hg2⟩;have Hg2:=xhd (World.grownBy.trans (gr_alloc HgE.out _) hg2);clear hg2
      skip
      have Hrow2:=xhd (row_keptB HJ.out.pc.row Hg2.out (fun k hk=>by simp));have Hsz2:=xhd (Nat.le_trans HJ.out.pc.grow.size Hg2.out.size);go_wp2_with (first|(at_builtin;refine wpList_append_own_at _ rfl _ _ 23 rfl w.heap.size 9 ti _ 1 16 Tryz.underlying23 hti htz0 htz1 htz2 rfl (by decide) _ (i+1) _ rfl (World.ownsRow.alloc Hrow2.out _) ⟨_,0,none⟩ 1 1 [.string (bs kk)] rfl rfl (cell_one_new _ _ _) (by simp[Value.oneCell']) (by unfold maxLen;omega) (by omega) (by have:=Hsz2.out;simp;omega) ?_))
      intro v9 w9 ho9 hg9 _ hat9;have HJ9:=xhd (HJ.out.step Hg2.out Hki.out ho9 hg9 hat9);obtain⟨so9,sn9,sc9,rfl⟩:=row_sl ho9;clear ho9 hg9 hat9;go_wp2_with fail
      go_roundg (kn-(i+1))
      case measure=>rw[Hg.out];omega
      case rel=>exact⟨i+1,_,_,_,rfl,by simp,rfl,by omega,HJ9.out⟩
     | arr ks =>
      obtain⟨u,hvu,hc⟩:=Hcall.out (by simp) w1e HgE.out;have hvu':v'=.iface 77 u:=hvu;subst hvu';clear hvu;have a3:bs (47::encN k)++bs (prP ff (.arr ks))=bs (pcD ff k (.arr ks)):=by rw[bs_app];simp[pcD,sepD,spc]
      have z3:¬9223372036854775807<(bs (47::encN k)).size+(bs (prP ff (.arr ks))).size:=by rw[bs_size,bs_size];have:=Hlp.out;simp;omega
      obtain⟨kk,hkk⟩:∃kk,kk=pcD ff k (.arr ks):=⟨_,rfl⟩;rw[←hkk]at a3 Hki;generalize bs (prP ff (.arr ks))=zp at *;generalize bs (47::encN k)=zk at *;generalize bs (encN k)=ze at *;have Hc:=xhd (show Calls Tryz.prog 287 _ _ _ from hc);clear hc hkk Hcall HOv Hlp
      skip
      go_wp2_with fail
      refine Hc.out.mono ?_;rintro e w2⟨rfl,hg2⟩;have Hg2:=xhd (World.grownBy.trans (HgE.out) hg2);clear hg2
      skip
      have Hrow2:=xhd (row_keptB HJ.out.pc.row Hg2.out (fun k hk=>by simp));have Hsz2:=xhd (Nat.le_trans HJ.out.pc.grow.size Hg2.out.size);go_wp2_with (first|(at_builtin;refine wpList_append_own_at _ rfl _ _ 23 rfl w.heap.size 9 ti _ 1 16 Tryz.underlying23 hti htz0 htz1 htz2 rfl (by decide) _ (i+1) _ rfl (World.ownsRow.alloc Hrow2.out _) ⟨_,0,none⟩ 1 1 [.string (bs kk)] rfl rfl (cell_one_new _ _ _) (by simp[Value.oneCell']) (by unfold maxLen;omega) (by omega) (by have:=Hsz2.out;simp;omega) ?_))
      intro v9 w9 ho9 hg9 _ hat9;have HJ9:=xhd (HJ.out.step Hg2.out Hki.out ho9 hg9 hat9);obtain⟨so9,sn9,sc9,rfl⟩:=row_sl ho9;clear ho9 hg9 hat9;go_wp2_with fail
      go_roundg (kn-(i+1))
      case measure=>rw[Hg.out];omega
      case rel=>exact⟨i+1,_,_,_,rfl,by simp,rfl,by omega,HJ9.out⟩
     | dict ks vs =>
      obtain⟨u,hvu,hc⟩:=Hcall.out (by simp) w1e HgE.out;have hvu':v'=.iface 81 u:=hvu;subst hvu';clear hvu;have a3:bs (47::encN k)++bs (prP ff (.dict ks vs))=bs (pcD ff k (.dict ks vs)):=by rw[bs_app];simp[pcD,sepD,spc]
      have z3:¬9223372036854775807<(bs (47::encN k)).size+(bs (prP ff (.dict ks vs))).size:=by rw[bs_size,bs_size];have:=Hlp.out;simp;omega
      obtain⟨kk,hkk⟩:∃kk,kk=pcD ff k (.dict ks vs):=⟨_,rfl⟩;rw[←hkk]at a3 Hki;generalize bs (prP ff (.dict ks vs))=zp at *;generalize bs (47::encN k)=zk at *;generalize bs (encN k)=ze at *;have Hc:=xhd (show Calls Tryz.prog 288 _ _ _ from hc);clear hc hkk Hcall HOv Hlp
      skip
      go_wp2_with fail
      refine Hc.out.mono ?_;rintro e w2⟨rfl,hg2⟩;have Hg2:=xhd (World.grownBy.trans (HgE.out) hg2);clear hg2
      skip
      have Hrow2:=xhd (row_keptB HJ.out.pc.row Hg2.out (fun k hk=>by simp));have Hsz2:=xhd (Nat.le_trans HJ.out.pc.grow.size Hg2.out.size);go_wp2_with (first|(at_builtin;refine wpList_append_own_at _ rfl _ _ 23 rfl w.heap.size 9 ti _ 1 16 Tryz.underlying23 hti htz0 htz1 htz2 rfl (by decide) _ (i+1) _ rfl (World.ownsRow.alloc Hrow2.out _) ⟨_,0,none⟩ 1 1 [.string (bs kk)] rfl rfl (cell_one_new _ _ _) (by simp[Value.oneCell']) (by unfold maxLen;omega) (by omega) (by have:=Hsz2.out;simp;omega) ?_))
      intro v9 w9 ho9 hg9 _ hat9;have HJ9:=xhd (HJ.out.step Hg2.out Hki.out ho9 hg9 hat9);obtain⟨so9,sn9,sc9,rfl⟩:=row_sl ho9;clear ho9 hg9 hat9;go_wp2_with fail
      go_roundg (kn-(i+1))
      case measure=>rw[Hg.out];omega
      case rel=>exact⟨i+1,_,_,_,rfl,by simp,rfl,by omega,HJ9.out⟩
    ·obtain rfl:i=kn:=by omega
     have hnm:¬(i:Int)<i:=by omega
     have HJK:=xhd HJ.out.pc
     skip
     go_wp2_with (first|(at_builtin;refine wpList_append_own_at _ rfl _ _ 23 rfl w.heap.size 9 ti _ 1 16 Tryz.underlying23 hti htz0 htz1 htz2 rfl (by decide) _ (i+1) _ rfl (World.ownsRow.alloc HJK.out.row _) ⟨_,0,none⟩ 1 1 [.string (bs [62,62])] rfl rfl (cell_one_new _ _ _) (by simp[Value.oneCell']) (by unfold maxLen;omega) (by omega) (by have:=HJK.out.grow.size;simp;omega) ?_))
     intro v7 w7 ho7 hg7 _ hat7
     have hshape:∃gg cap,v7=.slice (some ⟨gg,0,none⟩) (i+1+1) cap:=by
      rcases ho7.2 with⟨_,h0⟩|⟨gg,cap,cur,h,_⟩
      ·exact absurd h0 (by omega)
      ·exact⟨gg,cap,h⟩
     obtain⟨gg,cap7,rfl⟩:=hshape;have HJ7:=xhd (HJK.out.step (xgr _ _) HLz.out ho7 hg7);clear hg7 ho7 hat7;have hjn:=join_any L w.heap.size (some ⟨gg,0,none⟩) (i+2) cap7 w7 (by have:=HJ7.out.row;rw[List.take_of_length_le (by rw[List.length_map,HLl.out];exact Nat.le_refl _)]at this;rw[HLl.out];exact this) (by rw[HLl.out];omega) (by have:=HLf2.out;omega);have Hjn:=xhd hjn;clear hjn;go_wp2_with fail
     refine Hjn.out.mono ?_;rintro e w8⟨rfl,hg8⟩;have Hg8:=xhd hg8;clear hg8;go_wp2_with fail
     go_ret;exact⟨rfl,HJ7.out.grow.trans Hg8.out⟩
  ·intro x c kl yd yp w2 cnt2 hkey hlk hv hat hrg2 hlt hg2 hs2 hen
   obtain⟨x',ex,rfl,hxl⟩:=Maps.keyOf_str Tryz.underlying9 hkey;obtain rfl:x=x':=encStr_inj ex;have hrow2:=World.ownsRow.kept Hrow.out hg2 (Or.inr (row_ne_iter Hrow.out hrg).symm);have HC2:=xhd (Collected.step HCo.out hlk hat);obtain⟨Hg2,Hrg,Hrg2,Hlt,Hrow2⟩:=xh5 hg2 hrg hrg2 hlt hrow2;have Hw2:=xhd (show w7.heap.size+1≤w2.heap.size by have:=HG.out.size;have:=hg2.size;have:=hrg.lt;omega);clear hs2 hkey hlk hv hat hlt hg2 hrow2 ex hxl hrg hrg2;have hen':(Instr.entry (.pointer (some ⟨w7.heap.size,0,none⟩))).run Tryz.prog w2=.ok (.tuple #[.string ⟨x.toArray⟩,c]) w2:=hen;clear hen
   go_wp2_with (first
    | (at_builtin;refine wpList_append_own_at _ rfl _ _ 23 rfl (w7.heap.size+1) 9 ti (.string ⟨#[]⟩) 1 16 Tryz.underlying23 hti htz0 htz1 htz2 rfl (by decide) _ _ _ rfl (World.ownsRow.alloc Hrow2.out _) ⟨w2.heap.size,0,none⟩ 1 1 [.string ⟨x.toArray⟩] rfl rfl (cell_one_new _ _ _) (by simp[Value.oneCell']) (by have:=Hlen.out;unfold maxLen;omega) (by have:=Hlen.out;omega) (by have:=Hw2.out;simp;omega) ?_))
   intro v9 w9 ho9 hg9 _ hat9
   have hshape:∃g9 cap,v9=.slice (some ⟨g9,0,none⟩) (ss.length+1) cap:=by
    rcases ho9.2 with⟨_,h0⟩|⟨g9,cap,cur,h,_⟩
    ·exact absurd h0 (by omega)
    ·exact⟨g9,cap,h⟩
   obtain⟨g9,cap9,rfl⟩:=hshape;have hrg9:=(Hrg2.out.alloc _).kept hg9 (row_ne_low Hrow2.out (by have:=HJ7.out.grow.size;omega)) (row_ne_iter Hrow2.out Hrg2.out);have Hrg9:=xhd hrg9;have Hg9:=xhd (gr_alloc_then hg9);have Ho9:=xhd ho9;clear hrg9 hg9 ho9 hat9 hen';go_wp2_with fail
   go_roundg cnt2
   case measure=>exact Hlt.out
   case rel =>
    refine⟨_,ss++[x],some ⟨g9,0,none⟩,ss.length+1,cap9,rfl,Hrg9.out,HC2.out,?_,?_,?_⟩
    ·have:=Hlen.out;have:=Hlt.out;simp;omega
    ·have h:=Ho9.out
     simpa[encStr] using h
    ·refine gr_noneThen (gr_noneThen HG.out Hg2.out (fun k hk=>by injection hk with hk;omega)) Hg9.out (fun k hk=>?_)
     have:=World.ownsRow.lt Hrow2.out k hk;omega
end Go.Proofs.YtfkecmlmnhbmoaaGreatDoor
