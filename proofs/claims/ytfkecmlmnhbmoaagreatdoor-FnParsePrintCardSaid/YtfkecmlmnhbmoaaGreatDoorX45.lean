/- Parts D11 D12 U1 U2 U3 Q6. -/
import Derived.Test.YtfkecmlmnhbmoaaGreatDoorX42
import Derived.Test.YtfkecmlmnhbmoaaGreatDoorX44
set_option linter.unusedVariables false
set_option linter.unusedSimpArgs false
set_option maxRecDepth 100000
set_option maxHeartbeats 40000000
namespace Go.Proofs.YtfkecmlmnhbmoaaGreatDoor
open Go Go.RowKit Go.Maps
section
variable (i g:Int) (r:Nat) (ko vo:Option Addr) (kn kc vn vc:Nat) (w:World)
end
mutual
def srP:PO→Prop
 | .arr kids=>srPs kids
 | .dict keys kids=>keys.Pairwise (· < ·)∧srPs kids
 | _=>True
def srPs:List PO→Prop
 | []=>True
 | p::ps=>srP p∧srPs ps
end
def RR (pf:By→Nat)(ff:Nat→By)(x:Nat):Prop:=R12 pf ff x∧x<18446744073709551616∧x%9223372036854775808<4816244402031689728
def ObL (w w':World)(v:Value)(e:Ending):Prop:=e=.returned (.tuple #[v,.bool true])∧w.grownBy w' none
section
variable (i g:Int) (r:Nat) (z:ByteArray) (ko vo:Option Addr) (kn kc vn vc:Nat) (w:World)
theorem b7n:Calls Tryz.prog 21 #[.agg #[.int .i64 0,.int .i64 i,.int .i64 g,.float .f64 r,.string z,.slice ko kn kc,.slice vo vn vc]] w fun e w'=>ObL w w' .nilIface e:=by
 go_enter Tryz.func21,Tryz.ntmps21;go_wp2_with fail
 go_ret2;exact⟨rfl,a0a (xgr _ _) _⟩
theorem b4u:Calls Tryz.prog 21 #[.agg #[.int .i64 1,.int .i64 1,.int .i64 g,.float .f64 r,.string z,.slice ko kn kc,.slice vo vn vc]] w fun e w'=>ObL w w' (.iface 66 (.bool true)) e:=by
 go_enter Tryz.func21,Tryz.ntmps21;go_wp2_with fail
 go_ret2;exact⟨rfl,a0a (xgr _ _) _⟩
theorem b2k:Calls Tryz.prog 21 #[.agg #[.int .i64 1,.int .i64 0,.int .i64 g,.float .f64 r,.string z,.slice ko kn kc,.slice vo vn vc]] w fun e w'=>ObL w w' (.iface 66 (.bool false)) e:=by
 go_enter Tryz.func21,Tryz.ntmps21;go_wp2_with fail
 go_ret2;exact⟨rfl,a0a (xgr _ _) _⟩
theorem b9s:Calls Tryz.prog 21 #[.agg #[.int .i64 2,.int .i64 i,.int .i64 g,.float .f64 r,.string z,.slice ko kn kc,.slice vo vn vc]] w fun e w'=>ObL w w' (.iface 67 (.int .i64 i)) e:=by
 go_enter Tryz.func21,Tryz.ntmps21;go_wp2_with fail
 go_ret2;exact⟨rfl,a0a (xgr _ _) _⟩
theorem b7o:Calls Tryz.prog 21 #[.agg #[.int .i64 3,.int .i64 i,.int .i64 g,.float .f64 r,.string z,.slice ko kn kc,.slice vo vn vc]] w fun e w'=>ObL w w' (.iface 68 (.float .f64 r)) e:=by
 go_enter Tryz.func21,Tryz.ntmps21;go_wp2_with fail
 go_ret2;exact⟨rfl,a0a (xgr _ _) _⟩
theorem b9t:Calls Tryz.prog 21 #[.agg #[.int .i64 4,.int .i64 i,.int .i64 g,.float .f64 r,.string z,.slice ko kn kc,.slice vo vn vc]] w fun e w'=>ObL w w' (.iface 69 (.string z)) e:=by
 go_enter Tryz.func21,Tryz.ntmps21;go_wp2_with fail
 go_ret2;exact⟨rfl,a0a (xgr _ _) _⟩
theorem b7l:Calls Tryz.prog 21 #[.agg #[.int .i64 5,.int .i64 i,.int .i64 g,.float .f64 r,.string z,.slice ko kn kc,.slice vo vn vc]] w fun e w'=>ObL w w' (.iface 70 (.string z)) e:=by
 go_enter Tryz.func21,Tryz.ntmps21;go_wp2_with fail
 go_ret2;exact⟨rfl,a0a (xgr _ _) _⟩
theorem b7m:Calls Tryz.prog 21 #[.agg #[.int .i64 6,.int .i64 i,.int .i64 g,.float .f64 r,.string z,.slice ko kn kc,.slice vo vn vc]] w fun e w'=>ObL w w' (.iface 71 (.string z)) e:=by
 go_enter Tryz.func21,Tryz.ntmps21;go_wp2_with fail
 go_ret2;exact⟨rfl,a0a (xgr _ _) _⟩
theorem b9u:Calls Tryz.prog 21 #[.agg #[.int .i64 9,.int .i64 i,.int .i64 g,.float .f64 r,.string z,.slice ko kn kc,.slice vo vn vc]] w fun e w'=>ObL w w' (.iface 73 (.agg #[.int .i64 i,.int .i64 g])) e:=by
 go_enter Tryz.func21,Tryz.ntmps21;go_wp2_with fail
 refine(a6z i g _).mono ?_;rintro e w1⟨rfl,hw⟩;subst w1;go_wp2_with fail
 go_ret2;exact⟨rfl,a0a (a0a (xgr _ _) _) _⟩
end
def a9n (p:PO)(w w':World)(e:Ending):Prop:=∃v S',e=.returned (.tuple #[v,.bool true])∧ObjO S' w' p v∧(∀k,S' k→w.heap.size≤k∧k<w'.heap.size)∧w.grownBy w' none
def ObC (p:PO)(o:OB):Prop:=∀(S:Nat→Prop) (w:World) (ks vs:Value),IsB S w o ks vs→(∀k,S k→k<w.heap.size)→Calls Tryz.prog 21 #[obV o ks vs] w fun e w'=>a9n p w w' e
structure OsJ (w wr:World)(i:Nat)(ps:List PO)(sl:Value)(cells:List Value)(S2:Nat→Prop):Prop where
 row:wr.ownsRow w.heap.size 50 1 sl i cells
 objs:a0J S2 wr (ps.take i) cells
 bnd:∀k,S2 k→w.heap.size≤k∧k<wr.heap.size∧sl.ownBlock≠some k
 grow:w.grownBy wr none
def b8r (ps:List PO)(w w':World)(e:Ending):Prop:=∃sl cells S',e=.returned (.tuple #[sl,.bool true])∧SlAt S' w' sl 1 ps.length cells∧a0J S' w' ps cells∧(∀k,S' k→w.heap.size≤k∧k<w'.heap.size)∧w.grownBy w' none
theorem b4w (ps:List PO)(kids:List OB)(hlen:ps.length=kids.length)(hl2:kids.length≤20000)(hP:∀(i:Nat) p o,ps[i]?=some p→kids[i]?=some o→ObC p o)(vo:Option Addr)(vc:Nat)(S:Nat→Prop)(w:World)(hV:a7z S w vo kids)(hvc:kids.length≤vc)(hS:∀k,S k→k<w.heap.size) :
  Calls Tryz.prog 39 #[.slice vo kids.length vc] w fun e w'=>b8r ps w w' e:=by
 obtain⟨N,hN⟩:∃N,N=kids.length:=⟨_,rfl⟩;rw[←hN]at hlen hvc hl2⊢;obtain⟨HN,Hlen,HP,HV,HS⟩:=xh5 hN hlen hP hV hS;clear hN hlen hP hV hS;go_enter Tryz.func39,Tryz.ntmps39;go_wp2_with fail
 have hrow0:(w.alloc (.cells #[] 50)).ownsRow w.heap.size 50 1 (.slice (some ⟨w.heap.size,0,none⟩) 0 0) 0 []:=⟨rfl,.inr ⟨w.heap.size,0,#[],rfl,Nat.le_refl _,heap_alloc_new w _,Nat.le_refl _,by decide,rfl,rfl⟩⟩;have HJ0:=xhd (show OsJ w (w.alloc (.cells #[] 50)) 0 ps (.slice (some ⟨w.heap.size,0,none⟩) 0 0) [] (fun _=>False) from⟨hrow0,by simp[a0J],fun k hk=>hk.elim,a0a (xgr _ _) _⟩);clear hrow0
 go_loopg [4,12] N (fun gg t4 t12 wr=>∃i so sn sc cells S2,t4=.slice so sn sc∧t12=.int .i64 (i:Nat)∧gg=N-i∧i≤N∧OsJ w wr i ps (.slice so sn sc) cells S2)
 case atStart=>exact⟨0,_,_,_,[],_,rfl,rfl,rfl,Nat.zero_le _,HJ0.out⟩
 case round =>
  clear HJ0;obtain⟨i,so,sn,sc,cells,S2,rfl,rfl,hg,hi,hJ⟩:=hrel;obtain⟨HJ,Hg⟩:=xh2 hJ hg;clear hJ hg
  by_cases hiN:i<N
  ·have hnm:(i:Int)<N:=by omega
   have hwi:IntKind.i64.wrap ((i:Int)+1)=(i:Int)+1:=IntWalk.i64_in _ (by omega);obtain⟨oi,hoi⟩:∃o,kids[i]?=some o:=⟨_,List.getElem?_eq_getElem (by rw[←HN.out];exact hiN)⟩;obtain⟨pi,hpi⟩:∃p,ps[i]?=some p:=⟨_,List.getElem?_eq_getElem (by rw[Hlen.out];exact hiN)⟩;obtain⟨b0,j0,hvo,hSb,pko,pkc,pvo,pvc,hIi,hci⟩:=HV.out i oi hoi;subst hvo;have hblk:∀k,S k→wr.heap[k]?=w.heap[k]?:=fun k hk=>HJ.out.grow.block k (HS.out k hk) (by simp);have hcc:∀m u,(b7 oi (.slice pko oi.keys.length pkc) (.slice pvo oi.kids.length pvc))[m]?=some u→wr.cell? ⟨b0,j0+i*7+m,none⟩=some u:=fun m u hm=>(World.cell?_of_block (hblk b0 hSb)).trans (hci m u hm);have e0:wr.cell? ⟨b0,j0+i*7,none⟩=_:=hcc 0 _ rfl;have e1:=hcc 1 _ rfl;have e2:=hcc 2 _ rfl;have e3:=hcc 3 _ rfl;have e4:=hcc 4 _ rfl;have e5:=hcc 5 _ rfl;have e6:=hcc 6 _ rfl;have hcall:=fun (w2:World) (hg2:wr.grownBy w2 none)=>HP.out i pi oi hpi hoi S w2 _ _ (IsB.keep (S':=S) (fun k hk=>⟨hk,(hg2.block k (Nat.lt_of_lt_of_le (HS.out k hk) HJ.out.grow.size) (by simp)).trans (hblk k hk)⟩) _ _ _ hIi) (fun k hk=>Nat.lt_of_lt_of_le (Nat.lt_of_lt_of_le (HS.out k hk) HJ.out.grow.size) hg2.size);obtain⟨Hpi,Hcall⟩:=xh2 hpi hcall;clear hcall hcc hIi hci hpi hoi hblk;unfold obV at Hcall;generalize oi.k=k1 at *;generalize oi.i=k2 at *;generalize oi.g=k3 at *;generalize oi.r=k4 at *;generalize bs oi.t=k5 at *;generalize oi.keys.length=k6 at *;generalize oi.kids.length=k7 at *;go_wp2_with fail
   obtain⟨Wa,hWa⟩:∃Wa,Wa=wr.alloc (.cells #[.int .i64 k1,.int .i64 k2,.int .i64 k3,.float .f64 k4,.string k5,.slice pko k6 pkc,.slice pvo k7 pvc] 26):=⟨_,rfl⟩;have hga:wr.grownBy Wa none:=by rw[hWa];exact a0a (xgr _ _) _
   rw[←hWa];refine(Hcall.out Wa hga).mono ?_;rintro e w2⟨v,S3,rfl,hO,hS3,hg2⟩;have hg2':=hga.trans hg2;have Hrow2:=xhd (a0P HJ.out.row hg2' (fun k hk=>by simp));obtain⟨Hga,Hg2,HO,HS3⟩:=xh4 hga.size hg2' hO hS3
   have hv1:v.oneCell'=true:=by
    rcases hO.nil_or with⟨_,rfl⟩|⟨_,ty,u,rfl⟩<;>simp[Value.oneCell']
   have Hv1:=xhd hv1;obtain⟨ti,hti,htz0,htz1,htz2⟩:=info_parts Tryz.info50';have hw2s:w.heap.size≤w2.heap.size:=Nat.le_trans HJ.out.grow.size hg2'.size;have hnil:=xhd hO.nil_or;clear e0 e1 e2 e3 e4 e5 e6 hWa hga hg2 hg2' hO hS3 hv1;rcases hnil.out with⟨_,rfl⟩|⟨_,ty,u,rfl⟩
   ·skip
    go_wp2_with (first|(at_builtin;refine wpList_append_own_at _ rfl _ _ 77 rfl w.heap.size 50 ti .nilIface 1 16 Tryz.underlying77 hti htz0 htz1 htz2 rfl (by decide) _ _ _ rfl (World.ownsRow.alloc Hrow2.out _) ⟨w2.heap.size,0,none⟩ 1 1 [.nilIface] rfl rfl (cell_one_new _ _ _) (by intro u' hu;simp at hu;subst hu;simp[Value.oneCell']) (by unfold maxLen;omega) (by omega) (by simp;omega) ?_))
    intro v7 w7 ho7 hg7 _ hat7
    have hshape:∃gg cap,v7=.slice (some ⟨gg,0,none⟩) (i+1) cap:=by
     rcases ho7.2 with⟨_,h0⟩|⟨gg,cap,cur,h,_⟩
     ·exact absurd h0 (by omega)
     ·exact⟨gg,cap,h⟩
    obtain⟨gg,cap7,rfl⟩:=hshape;have hg27:=a0x hg7;obtain⟨Hg7,Ho7⟩:=xh2 hg27 ho7
    have Hat7:=xhd (show (Value.slice so sn sc).ownBlock=some gg∨w2.heap.size≤gg from by
     rcases hat7 with h|h
     ·left;rw[←h];rfl
     ·right;simp[Value.ownBlock]at h;omega)
    clear hg7 ho7 hat7 hg27;go_wp2_with fail
    go_roundg (N-(i+1))
    case measure=>rw[Hg.out];omega
    case rel =>
     have hJ:=HJ.out;have hrl:=World.ownsRow.lt hJ.row;have hs2:=Hg2.out.size;have hs7:=Hg7.out.size;have hsa:=Hga.out;have hw:=hJ.grow.size;refine⟨i+1,_,_,_,_,fun k=>S2 k∨S3 k,rfl,by simp,rfl,by omega,⟨Ho7.out,?_,?_,?_⟩⟩
     ·rw[List.take_add_one,Hpi.out]
      refine a0J.append (a0J.one (ObjO.keep (fun k hk=>⟨.inr hk,?_⟩) _ _ HO.out)) _ _ (a0J.keep (fun k hk=>⟨.inl hk,?_⟩) _ _ hJ.objs)
      ·have h1:=HS3.out k hk
       exact Hg7.out.block k h1.2 (fun e=>by have h3:=hrl k e.symm;omega)
      ·have h1:=hJ.bnd k hk
       exact(Hg7.out.block k (by omega) (fun e=>h1.2.2 e.symm)).trans (Hg2.out.block k h1.2.1 (by simp))
     ·intro k hk
      rcases hk with hk|hk
      ·have h1:=hJ.bnd k hk
       refine⟨h1.1,by omega,fun e=>?_⟩;have e:gg=k:=by simpa[Value.ownBlock] using e
       rcases Hat7.out with h|h
       ·exact h1.2.2 (h.trans (by rw[e]))
       ·omega
      ·have h1:=HS3.out k hk
       refine⟨by omega,by omega,fun e=>?_⟩;have e:gg=k:=by simpa[Value.ownBlock] using e
       rcases Hat7.out with h|h
       ·have h5:=hrl gg h;omega
       ·omega
     ·exact a0g (hJ.grow.trans Hg2.out) Hg7.out (fun j hj=>by have:=hrl j hj;omega)
   ·skip
    go_wp2_with (first|(at_builtin;refine wpList_append_own_at _ rfl _ _ 77 rfl w.heap.size 50 ti .nilIface 1 16 Tryz.underlying77 hti htz0 htz1 htz2 rfl (by decide) _ _ _ rfl (World.ownsRow.alloc Hrow2.out _) ⟨w2.heap.size,0,none⟩ 1 1 [.iface ty u] rfl rfl (cell_one_new _ _ _) (by intro u' hu;simp at hu;subst hu;simp[Value.oneCell']) (by unfold maxLen;omega) (by omega) (by simp;omega) ?_))
    intro v7 w7 ho7 hg7 _ hat7
    have hshape:∃gg cap,v7=.slice (some ⟨gg,0,none⟩) (i+1) cap:=by
     rcases ho7.2 with⟨_,h0⟩|⟨gg,cap,cur,h,_⟩
     ·exact absurd h0 (by omega)
     ·exact⟨gg,cap,h⟩
    obtain⟨gg,cap7,rfl⟩:=hshape;have hg27:=a0x hg7;obtain⟨Hg7,Ho7⟩:=xh2 hg27 ho7
    have Hat7:=xhd (show (Value.slice so sn sc).ownBlock=some gg∨w2.heap.size≤gg from by
     rcases hat7 with h|h
     ·left;rw[←h];rfl
     ·right;simp[Value.ownBlock]at h;omega)
    clear hg7 ho7 hat7 hg27;go_wp2_with fail
    go_roundg (N-(i+1))
    case measure=>rw[Hg.out];omega
    case rel =>
     have hJ:=HJ.out;have hrl:=World.ownsRow.lt hJ.row;have hs2:=Hg2.out.size;have hs7:=Hg7.out.size;have hsa:=Hga.out;have hw:=hJ.grow.size;refine⟨i+1,_,_,_,_,fun k=>S2 k∨S3 k,rfl,by simp,rfl,by omega,⟨Ho7.out,?_,?_,?_⟩⟩
     ·rw[List.take_add_one,Hpi.out]
      refine a0J.append (a0J.one (ObjO.keep (fun k hk=>⟨.inr hk,?_⟩) _ _ HO.out)) _ _ (a0J.keep (fun k hk=>⟨.inl hk,?_⟩) _ _ hJ.objs)
      ·have h1:=HS3.out k hk
       exact Hg7.out.block k h1.2 (fun e=>by have h3:=hrl k e.symm;omega)
      ·have h1:=hJ.bnd k hk
       exact(Hg7.out.block k (by omega) (fun e=>h1.2.2 e.symm)).trans (Hg2.out.block k h1.2.1 (by simp))
     ·intro k hk
      rcases hk with hk|hk
      ·have h1:=hJ.bnd k hk
       refine⟨h1.1,by omega,fun e=>?_⟩;have e:gg=k:=by simpa[Value.ownBlock] using e
       rcases Hat7.out with h|h
       ·exact h1.2.2 (h.trans (by rw[e]))
       ·omega
      ·have h1:=HS3.out k hk
       refine⟨by omega,by omega,fun e=>?_⟩;have e:gg=k:=by simpa[Value.ownBlock] using e
       rcases Hat7.out with h|h
       ·have h5:=hrl gg h;omega
       ·omega
     ·exact a0g (hJ.grow.trans Hg2.out) Hg7.out (fun j hj=>by have:=hrl j hj;omega)
  ·obtain rfl:i=N:=by omega
   have hnm:¬(i:Int)<i:=by omega
   go_wp2_with fail
   go_ret2;have hJ:=HJ.out;have hO:=hJ.objs;rw[List.take_of_length_le (by rw[Hlen.out];exact Nat.le_refl _)]at hO;have hrl:=World.ownsRow.lt hJ.row;refine⟨.slice so sn sc,cells,fun k=>S2 k∨(Value.slice so sn sc).ownBlock=some k,rfl,?_,a0J.keep (fun k hk=>⟨.inl hk,rfl⟩) _ _ hO,fun k hk=>?_,hJ.grow⟩
   ·rw[Hlen.out]
    exact(SlAt.of_row hJ.row (fun k=>(Value.slice so sn sc).ownBlock=some k) (fun k hk=>hk)).keep (fun k hk=>⟨.inr hk,rfl⟩)
   ·rcases hk with hk|hk
    ·exact⟨(hJ.bnd k hk).1,(hJ.bnd k hk).2.1⟩
    ·exact hrl k hk
structure DcJ (w wr:World)(i:Nat)(keys:List By)(ps:List PO)(cells:List Value)(S2:Nat→Prop):Prop where
 dict:a1y wr w.heap.size (keys.take i) cells
 objs:a0J S2 wr (ps.take i) cells
 bnd:∀k,S2 k→w.heap.size+1≤k∧k<wr.heap.size
 grow:w.grownBy wr none
def b8k (keys:List By)(ps:List PO)(w w':World)(e:Ending):Prop:=∃cells S',e=.returned (.tuple #[.map (some w.heap.size),.bool true])∧a1y w' w.heap.size keys cells∧a0J S' w' ps cells∧(∀k,S' k→w.heap.size+1≤k∧k<w'.heap.size)∧w.grownBy w' none
theorem b3W (keys:List By)(ps:List PO)(kids:List OB)(hkv:keys.length=kids.length)(hnd:keys.Nodup)(hkk:∀k∈keys,k.length≤1000000)(hlen:ps.length=kids.length)(hl2:kids.length≤20000)(hP:∀(i:Nat) p o,ps[i]?=some p→kids[i]?=some o→ObC p o)(ko vo:Option Addr)(kc vc:Nat)(S:Nat→Prop)(w:World)(hK:b0l S w ko keys)(hV:a7z S w vo kids)(hkc:keys.length≤kc)(hvc:kids.length≤vc)(hS:∀k,S k→k<w.heap.size) :
  Calls Tryz.prog 40 #[.slice ko keys.length kc,.slice vo kids.length vc] w fun e w'=>b8k keys ps w w' e:=by
 obtain⟨N,hN⟩:∃N,N=kids.length:=⟨_,rfl⟩;rw[hkv]at hkc⊢;rw[←hN]at hlen hvc hl2 hkc hkv⊢;obtain⟨HN,Hkv,Hlen,HP,HV,HK,HS,Hnd⟩:=xh8 hN hkv hlen hP hV hK hS hnd;have Hkk:=xhd hkk;have hmk:=run_makeMap (P:=Tryz.prog) 81 w;have HJ0:=xhd (show DcJ w (w.alloc (.map #[] 0)) 0 keys ps [] (fun _=>False) from⟨by simpa using a1y.new w,by simp[a0J],fun k hk=>hk.elim,a0a (xgr _ _) _⟩);clear hN hlen hP hV hK hS hnd hkk hkv;go_enter Tryz.func40,Tryz.ntmps40;go_wp2_with fail
 go_loopg [19] N (fun gg t19 wr=>∃i cells S2,t19=.int .i64 (i:Nat)∧gg=N-i∧i≤N∧DcJ w wr i keys ps cells S2)
 case atStart=>exact⟨0,[],_,rfl,rfl,Nat.zero_le _,HJ0.out⟩
 case round =>
  clear HJ0 hmk;obtain⟨i,cells,S2,rfl,hg,hi,hJ⟩:=hrel;obtain⟨HJ,Hg⟩:=xh2 hJ hg;clear hJ hg
  by_cases hiN:i<N
  ·have hnm:(i:Int)<N:=by omega
   have hwi:IntKind.i64.wrap ((i:Int)+1)=(i:Int)+1:=IntWalk.i64_in _ (by omega);obtain⟨oi,hoi⟩:∃o,kids[i]?=some o:=⟨_,List.getElem?_eq_getElem (by rw[←HN.out];exact hiN)⟩;obtain⟨pi,hpi⟩:∃p,ps[i]?=some p:=⟨_,List.getElem?_eq_getElem (by rw[Hlen.out];exact hiN)⟩;obtain⟨ki,hki⟩:∃k,keys[i]?=some k:=⟨_,List.getElem?_eq_getElem (by rw[Hkv.out];exact hiN)⟩;obtain⟨b0,j0,hvo,hSb,pko,pkc,pvo,pvc,hIi,hci⟩:=HV.out i oi hoi;obtain⟨b1,j1,hko,hSb1,hkc1⟩:=HK.out i ki hki;subst hvo;subst hko;have hblk:∀k,S k→wr.heap[k]?=w.heap[k]?:=fun k hk=>HJ.out.grow.block k (HS.out k hk) (by simp);have hcc:∀m u,(b7 oi (.slice pko oi.keys.length pkc) (.slice pvo oi.kids.length pvc))[m]?=some u→wr.cell? ⟨b0,j0+i*7+m,none⟩=some u:=fun m u hm=>(World.cell?_of_block (hblk b0 hSb)).trans (hci m u hm);have ek:wr.cell? ⟨b1,j1+i,none⟩=some (.string (bs ki)):=(World.cell?_of_block (hblk b1 hSb1)).trans hkc1;have e0:wr.cell? ⟨b0,j0+i*7,none⟩=_:=hcc 0 _ rfl;have e1:=hcc 1 _ rfl;have e2:=hcc 2 _ rfl;have e3:=hcc 3 _ rfl;have e4:=hcc 4 _ rfl;have e5:=hcc 5 _ rfl;have e6:=hcc 6 _ rfl;have hcall:=fun (w2:World) (hg2:wr.grownBy w2 none)=>HP.out i pi oi hpi hoi S w2 _ _ (IsB.keep (S':=S) (fun k hk=>⟨hk,(hg2.block k (Nat.lt_of_lt_of_le (HS.out k hk) HJ.out.grow.size) (by simp)).trans (hblk k hk)⟩) _ _ _ hIi) (fun k hk=>Nat.lt_of_lt_of_le (Nat.lt_of_lt_of_le (HS.out k hk) HJ.out.grow.size) hg2.size);obtain⟨Hpi,Hki,Hcall⟩:=xh3 hpi hki hcall;have hkl:=Hkk.out ki (List.mem_of_getElem? hki);have Hkl:=xhd hkl
   have hkn:ki∉keys.take i:=by
    intro hm;obtain⟨j,hj⟩:=List.mem_iff_getElem?.1 hm;have hji:j<i:=by have:=(List.getElem?_eq_some_iff.1 hj).1;simp at this;omega
    rw[List.getElem?_take,if_pos hji]at hj;exact a5R Hnd.out hki j hji hj
   have Hkn:=xhd hkn;clear hcall hcc hIi hci hpi hoi hblk hki hkl hkn hkc1 hSb hSb1;unfold obV at Hcall;generalize oi.k=k1 at *;generalize oi.i=k2 at *;generalize oi.g=k3 at *;generalize oi.r=k4 at *;generalize bs oi.t=k5 at *;generalize oi.keys.length=k6 at *;generalize oi.kids.length=k7 at *;go_wp2_with fail
   refine(Hcall.out wr (xgr _ _)).mono ?_;rintro e w2⟨v,S3,rfl,hO,hS3,hg2⟩;have hD2:=HJ.out.dict.keep (w':=w2) (hg2.block _ HJ.out.dict.lt (by simp));obtain⟨h1,h2,D,hown,h3,h4⟩:=hD2;have hT:=IsMap.of hown;have hkey:=key9 ki (by unfold maxLen;have:=Hkl.out;omega);obtain⟨w3,hm,hown3,hg3⟩:=hown.update a4h Tryz.underlying81 (key:=.string (bs ki)) (val:=v) (by unfold maxLen;have:=List.length_take_le i keys;omega) hkey rfl;have hd3:=a1y.put h1 h2 hT h3 h4 Hkn.out hown3;obtain⟨HD3,Hg2,Hg3,HO,HS3⟩:=xh5 hd3 hg2 hg3 hO hS3;clear h1 h2 h3 h4 hT hd3 hown3 hg2 hg3 hO hS3 hown e0 e1 e2 e3 e4 e5 e6 ek hkey;go_wp2_with fail
   go_roundg (N-(i+1))
   case measure=>rw[Hg.out];omega
   case rel =>
    have hJ:=HJ.out;have hs2:=Hg2.out.size;have hs3:=Hg3.out.size;have hw:=hJ.grow.size;have hdl:=hJ.dict.lt;refine⟨i+1,cells++[v],fun k=>S2 k∨S3 k,by simp,rfl,by omega,⟨?_,?_,?_,?_⟩⟩
    ·rw[List.take_add_one,Hki.out];exact HD3.out
    ·rw[List.take_add_one,Hpi.out]
     refine a0J.append (a0J.one (ObjO.keep (fun k hk=>⟨.inr hk,?_⟩) _ _ HO.out)) _ _ (a0J.keep (fun k hk=>⟨.inl hk,?_⟩) _ _ hJ.objs)
     ·have h1:=HS3.out k hk
      exact Hg3.out.block k h1.2 (fun e=>by injection e with e;omega)
     ·have h1:=hJ.bnd k hk
      exact(Hg3.out.block k (by omega) (fun e=>by injection e with e;omega)).trans (Hg2.out.block k h1.2 (by simp))
    ·intro k hk
     rcases hk with hk|hk
     ·have h1:=hJ.bnd k hk;omega
     ·have h1:=HS3.out k hk;omega
    ·exact a0g (hJ.grow.trans Hg2.out) Hg3.out (fun j hj=>by injection hj with hj;omega)
  ·obtain rfl:i=N:=by omega
   have hnm:¬(i:Int)<i:=by omega
   go_wp2_with fail
   go_ret2;have hJ:=HJ.out;have hO:=hJ.objs;have hD:=hJ.dict;rw[List.take_of_length_le (by rw[Hlen.out];exact Nat.le_refl _)]at hO;rw[List.take_of_length_le (by rw[Hkv.out];exact Nat.le_refl _)]at hD;exact⟨cells,S2,rfl,hD,hO,hJ.bnd,hJ.grow⟩
open Go.Lib
theorem a7O (L:List By):Lib.join L []=L.flatten:=by
 unfold Lib.join
 induction L with
 | nil=>rfl
 | cons a L ih =>
  cases L with
  | nil=>simp[List.intercalate]
  | cons b L =>
   rw[List.flatten_cons,←ih];simp[List.intercalate]
theorem b6s (l:By):(bs l).data.toList=l:=by simp[bs]
theorem a9E (L:List By)(base:Nat)(so:Option Addr)(sn sc:Nat)(w:World)(hrow:w.ownsRow base 9 1 (.slice so sn sc) L.length (L.map encStr))(hl:L.length≤10000000)(hf:L.flatten.length≤100000000000) :
  Calls Tryz.prog 289 #[.slice so sn sc,.string ⟨#[]⟩] w fun e w'=>e=.returned (.string (bs L.flatten))∧w.grownBy w' none:=by
 rcases hrow.2 with⟨hnil,h0⟩|⟨g,cap,cur,he,hbase,hb,h1,h2,h3,h4⟩
 ·injection hnil with e1 e2 e3
  subst e1;subst e2;subst e3
  obtain rfl:L=[]:=List.eq_nil_of_length_eq_zero h0;refine(Tryz.strings_Join_none none 0 _ w).mono ?_;rintro e w'⟨rfl,rfl⟩;exact⟨rfl,xgr _ _⟩
 ·injection he with e1 e2 e3
  subst e1;subst e2;subst e3
  have hcells:∀(j:Nat) x,(L.map bs)[j]?=some x→w.cell? ⟨g,0+j,none⟩=some (.string x):=by
   intro j x hj;rw[List.getElem?_map]at hj
   have:=World.ownsRow.cells hrow (g:=g) rfl j (.string x) (by
    rw[List.getElem?_map]
    cases hq:L[j]? with
    | none=>rw[hq]at hj;simp at hj
    | some y=>rw[hq]at hj;simp at hj;subst hj;rfl)
   have e:(⟨g,0,none⟩:Addr).add j=⟨g,0+j,none⟩:=by unfold Addr.add;split<;>simp_all
   rw[e]at this;exact this
  have hm:(L.map bs).map (·.data.toList)=L:=by
   rw[List.map_map]
   conv=>rhs;rw[←List.map_id L]
   exact List.map_congr_left fun a _=>b6s a
  have hj:=Tryz.strings_Join g 0 sc (L.map bs) ⟨#[]⟩ w hcells (xgl hb) (by simp;omega) (by simp;omega) (by
   rw[hm]
   show (Lib.join L []).length≤_
   rw[a7O];omega)
  rw[List.length_map,hm]at hj;refine hj.mono ?_;rintro e w'⟨rfl,hb⟩;refine⟨?_,hb.os,hb.tape,hb.output,hb.size,fun k hk _=>hb.block k hk⟩
  show _=Ending.returned (.string (bs L.flatten))
  rw[←a7O];rfl
def tyP:PO→Nat
 | .null=>0 | .bool _=>66 | .int _=>67 | .real _=>68 | .lit _=>69 | .hexl _=>70 | .name _=>71 | .ref _ _=>73 | .arr _=>77 | .dict _ _=>81
def fnP:PO→Nat
 | .null=>0 | .bool _=>260 | .int _=>265 | .real _=>268 | .lit _=>271 | .hexl _=>274 | .name _=>277 | .ref _ _=>285 | .arr _=>287 | .dict _ _=>288
def PrC (ff:Nat→By)(R:Nat→Prop)(W0:World)(p:PO):Prop:=∀(S:Nat→Prop) (w:World) (v:Value),ObjO S w p v→(∀k,S k→k<w.heap.size)→Env W0 w→okR ff R p→srP p→(prP ff p).length≤1000000000→p≠.null →
 ∃u,v=.iface (tyP p) u∧Calls Tryz.prog (fnP p) #[u] w fun e w'=>e=.returned (.string (bs (prP ff p)))∧w.grownBy w' none
theorem b4F (ff:Nat→By)(R:Nat→Prop)(W0:World)(hT:TabIs Tryz.prog W0 "internal/strconv.uint64pow10" .u64 pow10Tab)(hR:∀x,R x→FfC W0 x (ff x))(p:PO)(h1:∀ks,p≠.arr ks)(h2:∀ks vs,p≠.dict ks vs):PrC ff R W0 p:=by
 intro S w v hO hS hE hok hsr hl hnn
 cases p with
 | null=>exact absurd rfl hnn
 | bool b =>
  simp only[ObjO]at hO;exact⟨_,hO,(c2d b w).mono fun e w' h=>⟨by rw[h.1];rfl,by rw[h.2];exact xgr _ _⟩⟩
 | int n =>
  simp only[ObjO]at hO;simp only[okR]at hok;exact⟨_,hO,pint n (by omega) (by omega) W0 w hT hE⟩
 | real x =>
  simp only[ObjO]at hO;simp only[okR]at hok;exact⟨_,hO,c2h x (ff x) W0 w (hR x hok.2) hE⟩
 | lit s =>
  simp only[ObjO]at hO;exact⟨_,hO.2,(b5f s (by omega) w).mono fun e w' h=>⟨by rw[h.1];rfl,by rw[h.2];exact xgr _ _⟩⟩
 | hexl s =>
  simp only[ObjO]at hO;exact⟨_,hO.2,(b4h s (by omega) w).mono fun e w' h=>⟨by rw[h.1];rfl,by rw[h.2];exact xgr _ _⟩⟩
 | name s =>
  simp only[ObjO]at hO;exact⟨_,hO.2,c2f s (by omega) w⟩
 | ref n g =>
  simp only[ObjO]at hO;simp only[okR]at hok;exact⟨_,hO,pref n g (by omega) (by omega) (by omega) (by omega) W0 w hT hE⟩
 | arr ks=>exact absurd rfl (h1 ks)
 | dict ks vs=>exact absurd rfl (h2 ks vs)
end Go.Proofs.YtfkecmlmnhbmoaaGreatDoor
