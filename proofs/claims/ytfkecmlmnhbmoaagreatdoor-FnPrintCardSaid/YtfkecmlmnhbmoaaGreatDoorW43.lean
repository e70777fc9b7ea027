/- Parts D11 D12 U1 U2 U3 Q6. -/
import Derived.Test.YtfkecmlmnhbmoaaGreatDoorW41
import Derived.Test.YtfkecmlmnhbmoaaGreatDoorW42
set_option linter.unusedVariables false
set_option linter.unusedSimpArgs false
set_option maxRecDepth 100000
set_option maxHeartbeats 40000000
namespace Go.Proofs.YtfkecmlmnhbmoaaGreatDoor
open Go Go.RowKit Go.Maps
section
variable (i g:Int) (r:Nat) (ko vo:Option Addr) (kn kc vn vc:Nat) (w:World)
theorem fo_real (z:ByteArray)(pf:By→Nat)(ff:Nat→By)(W0:World)(hpf:PFC pf W0)(hff:FfAll ff W0)(hr:r<18446744073709551616)(hE:Env W0 w):Calls Tryz.prog 18 #[.agg #[.int .i64 3,.int .i64 i,.int .i64 g,.float .f64 r,.string z,.slice ko kn kc,.slice vo vn vc]] w fun e w'=>LfPost w w' (fun x=>x=.real r∧numOk (ff r)∧R12 pf ff r∧r%9223372036854775808<4816244402031689728) e:=by
 have htw:=fun (w2:World) (hg:w.grownBy w2 none)=>twelve_any pf ff W0 hpf hff r hr w2 (hE.grown0 hg);have Htw:=xhd htw;clear htw hpf hff hE;obtain⟨hg0,hb0,hz0⟩:=fr_world w (.cells #[.int .i64 3,.int .i64 i,.int .i64 g,.float .f64 r,.string z,.slice ko kn kc,.slice vo vn vc] 26);unfold Z30 at *;go_enter Tryz.func18,Tryz.ntmps18;go_wp2_with fail
 refine(only_all _ _ _ _ _ _ _ _ _ _ _ _).mono ?_;rintro e w1⟨⟨b,rfl⟩,hg1⟩;have hb1:=(hg1.block _ (xgl hb0) (by simp)).trans hb0;have hz1:=(hg1.block _ (xgl hz0) (by simp)).trans hz0;obtain⟨y0,y1,y2,y3,y4,y5,y6,yf⟩:=cells7 hb1;obtain⟨z0,z1,z2,z3,z4,z5,z6,zf⟩:=cells7 hz1;obtain⟨HZ,HBk⟩:=xh2 hz1 hb1;have HG:=xhd (hg0.trans hg1);clear hg0 hb0 hz0 hg1 hb1 hz1
 cases b
 ·go_wp2_with fail
  refine fr_ret rfl rfl HZ.out ?_;intro w' _ _ hgr
  first
   | exact⟨.null,false,rfl,hgr _ _ HG.out (by omega),fun h=>by cases h⟩
   | exact⟨_,false,rfl,⟨_,_,_,_,_,_,_,_,_,_,_,rfl⟩,hgr _ _ HG.out (by omega),fun h=>by cases h⟩
 ·go_wp2_with fail
  go_region_law
   (first
    | (go_simp;go_at_call 31;refine(Htw.out _ (by first|exact HG.out|exact gr_drew HG.out|exact gr_drewN HG.out _)).mono ?_;rintro e w2⟨b,rfl,hg2,hb2⟩;have Hb2:=xhd hb2;clear hb2;have Hgw:=xhd (show w1.grownBy w2 none from by first|exact hg2|exact(gr_drew (xgr _ _)).trans hg2|exact(gr_drewN (xgr _ _) _).trans hg2);have hz2:=(Hgw.out.block _ (xgl HZ.out) (by simp)).trans HZ.out;have hbk2:=(Hgw.out.block _ (xgl HBk.out) (by simp)).trans HBk.out;have HZ2:=xhd hz2;have HG2:=xhd (HG.out.trans Hgw.out);obtain⟨x0,x1,x2,x3,x4,x5,x6,xf⟩:=cells7 hz2;obtain⟨j0,j1,j2,j3,j4,j5,j6,jf⟩:=cells7 hbk2;clear hg2 hz2 hbk2))
  all_goals
   go_wp2_with fail
   refine fr_ret rfl rfl HZ2.out ?_;intro w' _ _ hgr;exact⟨.real r,b,rfl,hgr _ _ HG2.out (by omega),fun h=>⟨rfl,Hb2.out h⟩⟩
theorem fo_lit (s:By)(hl:s.length≤140737488351232):Calls Tryz.prog 18 #[.agg #[.int .i64 4,.int .i64 i,.int .i64 g,.float .f64 r,.string (bs s),.slice ko kn kc,.slice vo vn vc]] w fun e w'=>LfPost w w' (fun x=>∃t,x=.str t∧litF (40::(s++[41])) 0 []=some (t,[])) e:=by
 have hlb:=fun w2=>litbytes_all s (by omega) w2;have Hlb:=xhd hlb;clear hlb;obtain⟨z,hz⟩:∃z,z=bs s:=⟨_,rfl⟩;rw[←hz]at Hlb⊢;clear hz;obtain⟨hg0,hb0,hz0⟩:=fr_world w (.cells #[.int .i64 4,.int .i64 i,.int .i64 g,.float .f64 r,.string z,.slice ko kn kc,.slice vo vn vc] 26);unfold Z30 at *;go_enter Tryz.func18,Tryz.ntmps18;go_wp2_with fail
 refine(only_all _ _ _ _ _ _ _ _ _ _ _ _).mono ?_;rintro e w1⟨⟨b,rfl⟩,hg1⟩;have hb1:=(hg1.block _ (xgl hb0) (by simp)).trans hb0;have hz1:=(hg1.block _ (xgl hz0) (by simp)).trans hz0;obtain⟨y0,y1,y2,y3,y4,y5,y6,yf⟩:=cells7 hb1;obtain⟨z0,z1,z2,z3,z4,z5,z6,zf⟩:=cells7 hz1;obtain⟨HZ,HBk⟩:=xh2 hz1 hb1;have HG:=xhd (hg0.trans hg1);clear hg0 hb0 hz0 hg1 hb1 hz1
 cases b
 ·go_wp2_with fail
  refine fr_ret rfl rfl HZ.out ?_;intro w' _ _ hgr
  first
   | exact⟨.null,false,rfl,hgr _ _ HG.out (by omega),fun h=>by cases h⟩
   | exact⟨_,false,rfl,⟨_,_,_,_,_,_,_,_,_,_,_,rfl⟩,hgr _ _ HG.out (by omega),fun h=>by cases h⟩
 ·go_wp2_with fail
  refine(Hlb.out _).mono ?_;rintro e w2⟨t,b,rfl,hg2,hb2⟩;have Hb2:=xhd hb2;have Hbt:=xhd (show bs t=(⟨t.toArray⟩:ByteArray) from rfl);clear hb2;have Hgw:=xhd (show w1.grownBy w2 none from by first|exact hg2|exact(gr_drew (xgr _ _)).trans hg2|exact(gr_drewN (xgr _ _) _).trans hg2);have hz2:=(Hgw.out.block _ (xgl HZ.out) (by simp)).trans HZ.out;have hbk2:=(Hgw.out.block _ (xgl HBk.out) (by simp)).trans HBk.out;have HZ2:=xhd hz2;have HG2:=xhd (HG.out.trans Hgw.out);obtain⟨x0,x1,x2,x3,x4,x5,x6,xf⟩:=cells7 hz2;obtain⟨j0,j1,j2,j3,j4,j5,j6,jf⟩:=cells7 hbk2;clear hg2 hz2 hbk2
  clear y0 y1 y2 y3 y4 y5 y6 yf z0 z1 z2 z3 z4 z5 z6 zf;go_wp2_with fail
  refine fr_ret rfl rfl HZ2.out ?_;intro w' _ _ hgr;exact⟨.str t,b,rfl,hgr _ _ HG2.out (by omega),fun h=>⟨t,rfl,Hb2.out h⟩⟩
theorem fo_hexl (s:By)(hl:s.length≤140737488351232):Calls Tryz.prog 18 #[.agg #[.int .i64 5,.int .i64 i,.int .i64 g,.float .f64 r,.string (bs s),.slice ko kn kc,.slice vo vn vc]] w fun e w'=>LfPost w w' (fun x=>x=.str (hexT s)∧∀c∈s,0≤hexVal (c.toNat:Int)) e:=by
 have hlb:=fun w2=>hexbytes_all s (by omega) w2;have Hlb:=xhd hlb;clear hlb;obtain⟨z,hz⟩:∃z,z=bs s:=⟨_,rfl⟩;rw[←hz]at Hlb⊢;clear hz;obtain⟨hg0,hb0,hz0⟩:=fr_world w (.cells #[.int .i64 5,.int .i64 i,.int .i64 g,.float .f64 r,.string z,.slice ko kn kc,.slice vo vn vc] 26);unfold Z30 at *;go_enter Tryz.func18,Tryz.ntmps18;go_wp2_with fail
 refine(only_all _ _ _ _ _ _ _ _ _ _ _ _).mono ?_;rintro e w1⟨⟨b,rfl⟩,hg1⟩;have hb1:=(hg1.block _ (xgl hb0) (by simp)).trans hb0;have hz1:=(hg1.block _ (xgl hz0) (by simp)).trans hz0;obtain⟨y0,y1,y2,y3,y4,y5,y6,yf⟩:=cells7 hb1;obtain⟨z0,z1,z2,z3,z4,z5,z6,zf⟩:=cells7 hz1;obtain⟨HZ,HBk⟩:=xh2 hz1 hb1;have HG:=xhd (hg0.trans hg1);clear hg0 hb0 hz0 hg1 hb1 hz1
 cases b
 ·go_wp2_with fail
  refine fr_ret rfl rfl HZ.out ?_;intro w' _ _ hgr
  first
   | exact⟨.null,false,rfl,hgr _ _ HG.out (by omega),fun h=>by cases h⟩
   | exact⟨_,false,rfl,⟨_,_,_,_,_,_,_,_,_,_,_,rfl⟩,hgr _ _ HG.out (by omega),fun h=>by cases h⟩
 ·go_wp2_with fail
  refine(Hlb.out _).mono ?_;rintro e w2⟨t,b,rfl,hg2,hb2⟩;have Hb2:=xhd hb2;clear hb2;have Hgw:=xhd (show w1.grownBy w2 none from by first|exact hg2|exact(gr_drew (xgr _ _)).trans hg2|exact(gr_drewN (xgr _ _) _).trans hg2);have hz2:=(Hgw.out.block _ (xgl HZ.out) (by simp)).trans HZ.out;have hbk2:=(Hgw.out.block _ (xgl HBk.out) (by simp)).trans HBk.out;have HZ2:=xhd hz2;have HG2:=xhd (HG.out.trans Hgw.out);obtain⟨x0,x1,x2,x3,x4,x5,x6,xf⟩:=cells7 hz2;obtain⟨j0,j1,j2,j3,j4,j5,j6,jf⟩:=cells7 hbk2;clear hg2 hz2 hbk2
  clear y0 y1 y2 y3 y4 y5 y6 yf z0 z1 z2 z3 z4 z5 z6 zf;go_wp2_with fail
  refine fr_ret rfl rfl HZ2.out ?_;intro w' _ _ hgr;exact⟨.str t,b,rfl,hgr _ _ HG2.out (by omega),fun h=>⟨by rw[(Hb2.out h).1],(Hb2.out h).2⟩⟩
theorem fo_name (s:By)(hl:s.length≤140737488351232):Calls Tryz.prog 18 #[.agg #[.int .i64 6,.int .i64 i,.int .i64 g,.float .f64 r,.string (bs s),.slice ko kn kc,.slice vo vn vc]] w fun e w'=>LfPost w w' (fun x=>x=.name s∧∀c∈s,(c.toNat:Int)≠0) e:=by
 have hlb:=fun w2=>nameable_all s (by omega) w2;have Hlb:=xhd hlb;clear hlb;have Hbt:=xhd (show bs s=(⟨s.toArray⟩:ByteArray) from rfl);obtain⟨z,hz⟩:∃z,z=bs s:=⟨_,rfl⟩;rw[←hz]at Hlb Hbt⊢;clear hz;obtain⟨hg0,hb0,hz0⟩:=fr_world w (.cells #[.int .i64 6,.int .i64 i,.int .i64 g,.float .f64 r,.string z,.slice ko kn kc,.slice vo vn vc] 26);unfold Z30 at *;go_enter Tryz.func18,Tryz.ntmps18;go_wp2_with fail
 refine(only_all _ _ _ _ _ _ _ _ _ _ _ _).mono ?_;rintro e w1⟨⟨b,rfl⟩,hg1⟩;have hb1:=(hg1.block _ (xgl hb0) (by simp)).trans hb0;have hz1:=(hg1.block _ (xgl hz0) (by simp)).trans hz0;obtain⟨y0,y1,y2,y3,y4,y5,y6,yf⟩:=cells7 hb1;obtain⟨z0,z1,z2,z3,z4,z5,z6,zf⟩:=cells7 hz1;obtain⟨HZ,HBk⟩:=xh2 hz1 hb1;have HG:=xhd (hg0.trans hg1);clear hg0 hb0 hz0 hg1 hb1 hz1
 cases b
 ·go_wp2_with fail
  refine fr_ret rfl rfl HZ.out ?_;intro w' _ _ hgr
  first
   | exact⟨.null,false,rfl,hgr _ _ HG.out (by omega),fun h=>by cases h⟩
   | exact⟨_,false,rfl,⟨_,_,_,_,_,_,_,_,_,_,_,rfl⟩,hgr _ _ HG.out (by omega),fun h=>by cases h⟩
 ·go_wp2_with fail
  go_region_law
   (first
    | (go_simp;go_at_call 35;refine(Hlb.out _).mono ?_;rintro e w2⟨b,rfl,hw2,hb2⟩;subst w2;have Hb2:=xhd hb2;clear hb2))
  all_goals
   go_wp2_with fail
   refine fr_retd rfl rfl HZ.out ?_;intro w' hgr;exact⟨.name s,b,(by unfold valOf pvKind pvInt pvGen pvReal pvText;rw[←Hbt.out];rfl),hgr _ _ HG.out (by omega),fun h=>⟨rfl,Hb2.out h⟩⟩
end
mutual
def shB:OB→Prop
 | .mk _ _ _ _ _ keys kids=>keys.length≤kids.length∧shBs kids
def shBs:List OB→Prop
 | []=>True
 | o::os=>shB o∧shBs os
end
mutual
def szB:OB→Nat
 | .mk _ _ _ _ _ _ kids=>szBs kids+1
def szBs:List OB→Nat
 | []=>0
 | o::os=>szB o+szBs os
end
def Img2 (p:PO)(o:OB):Prop:=Img p o∧shB o∧szB o≤szV (valP p)
def Imgs2 (ps:List PO)(l:List OB):Prop:=Imgs ps l∧shBs l∧szBs l≤szVs (valPs ps)
theorem Imgs2.nil:Imgs2 [] []:=⟨by simp[Imgs],by simp[shBs],by simp[szBs]⟩
theorem shBs_snoc:∀ {l:List OB} {o:OB},shBs l→shB o→shBs (l++[o])
 | [],o,_,h=>by simp only[List.nil_append,shBs];exact⟨h,trivial⟩
 | q::l,o,hs,h=>by simp only[List.cons_append,shBs]at hs⊢;exact⟨hs.1,shBs_snoc hs.2 h⟩
theorem szBs_snoc:∀(l:List OB) (o:OB),szBs (l++[o])=szBs l+szB o
 | [],o=>by simp[szBs]
 | q::l,o=>by simp only[List.cons_append,szBs,szBs_snoc l o];omega
theorem Imgs2.snoc {ps:List PO}{l:List OB}{p:PO}{o:OB}(h:Imgs2 ps l)(hp:Img2 p o):Imgs2 (ps++[p]) (l++[o]):=by
 refine⟨Imgs.snoc h.1 hp.1,shBs_snoc h.2.1 hp.2.1,?_⟩;have e:valPs (ps++[p])=valPs ps++[valP p]:=by rw[valPs_map,valPs_map,List.map_append];rfl
 rw[e,szBs_snoc,szVs_app];have:=h.2.2;have:=hp.2.2;omega
theorem ksum_len:∀(l:List By),(∀k∈l,k.length≤140737488351232)→(l.map fun k=>k.length/16).sum≤l.length*8796093021952
 | [],_=>by simp
 | y::ys,h=>by
  have a:=h y (by simp);have b:=ksum_len ys (fun k hk=>h k (by simp[hk]));simp only[List.map_cons,List.sum_cons,List.length_cons];omega
mutual
theorem fw_size:∀o:OB,wfB o→shB o→fwB o+8796093021952≤szB o*17592186043905
 | .mk _ _ _ _ t keys kids,hw,hs=>by
  simp only[wfB,shB]at hw hs;have h4:=fws_size kids hw.2.2.2.2.2 hs.2;have h6:=ksum_len keys hw.2.2.2.1;have h7:=hw.2.1;have h8:=hs.1;simp only[fwB,szB];omega
theorem fws_size:∀l:List OB,wfBs l→shBs l→fwBs l+l.length*8796093021952≤szBs l*17592186043905
 | [],_,_=>by simp[fwBs,szBs]
 | x::xs,hw,hs=>by
  simp only[wfBs,shBs]at hw hs;have h1:=fw_size x hw.1 hs.1;have h2:=fws_size xs hw.2 hs.2;simp only[fwBs,szBs,List.length_cons];omega
end
mutual
def srP:PO→Prop
 | .arr kids=>srPs kids
 | .dict keys kids=>keys.Pairwise (· < ·)∧srPs kids
 | _=>True
def srPs:List PO→Prop
 | []=>True
 | p::ps=>srP p∧srPs ps
end
def okS (ff:Nat→By)(R:Nat→Prop)(p:PO):Prop:=okR ff R p∧srP p
def okSs (ff:Nat→By)(R:Nat→Prop)(ps:List PO):Prop:=okRs ff R ps∧srPs ps
theorem okSs_nil (ff:Nat→By)(R:Nat→Prop):okSs ff R []:=⟨by simp[okRs],by simp[srPs]⟩
def RR (pf:By→Nat)(ff:Nat→By)(x:Nat):Prop:=R12 pf ff x∧x<18446744073709551616∧x%9223372036854775808<4816244402031689728
def FoPost (pf:By→Nat)(ff:Nat→By)(S:Nat→Prop)(w w':World)(o:OB)(e:Ending):Prop :=
 ∃(v:Value) (b:Bool),e=.returned (.tuple #[v,.bool b])∧Shape7 v∧w.grownBy w' none ∧
  (b=true→∃(p:PO) (ks vs:Value) (S':Nat→Prop),Img2 p o∧okS ff (RR pf ff) p∧v=valOf (valP p) ks vs∧IsV S' w' (valP p) ks vs∧(∀k,S' k→(S k∨w.heap.size≤k)∧k<w'.heap.size))
def FoC (pf:By→Nat)(ff:Nat→By)(W0:World)(o:OB):Prop:=∀(S:Nat→Prop) (w:World) (ks vs:Value),wfB o→IsB S w o ks vs→(∀k,S k→k<w.heap.size)→Env W0 w →
 Calls Tryz.prog 18 #[obV o ks vs] w fun e w'=>FoPost pf ff S w w' o e
structure FkJ (ff:Nat→By)(R:Nat→Prop)(w wr:World)(S:Nat→Prop)(i:Nat)(kids:List OB)(kk:Int)(ksv:Value)(xobj:Obj)(so:Option Addr)(sn sc:Nat)(cells:List Value)(S2:Nat→Prop)(ps:List PO):Prop where
 vcell:wr.heap[w.heap.size]?=some (.cells #[.int .i64 kk,.int .i64 0,.int .i64 0,.float .f64 0,.string ⟨#[]⟩,ksv,.slice so sn sc] 30 (0,0))
 xcell:wr.heap[w.heap.size+1]?=some xobj
 res:wr.heap[w.heap.size+1+1]?=some Z30
 row:wr.ownsRow (w.heap.size+3) 30 7 (.slice so sn sc) i cells
 objs:IsVs S2 wr (valPs ps) cells
 img:Imgs2 ps (kids.take i)
 ok:okSs ff R ps
 bnd:∀k,S2 k→(S k∨w.heap.size+3≤k)∧k<wr.heap.size∧(Value.slice so sn sc).ownBlock≠some k
 grow:w.grownBy wr none
theorem fk_ret {w3:World}{B:Nat}{a0 a1 a2 a3 a4 a5 a6 v0 v1 v2 v3 v4 v5 v6 u3:Value}{tmps:Array Value}{R:Ending→World→Prop}(h2:tmps.getD 4 undef=.pointer (some ⟨B,0,none⟩))(h3:tmps.getD 5 undef=u3)
  (hz:w3.heap[B]?=some (.cells #[a0,a1,a2,a3,a4,a5,a6] 30 (0,0)))
  (hR:∀w',(∀k,k≠B→w'.heap[k]?=w3.heap[k]?)→w'.heap.size=w3.heap.size→(∀w0 r,World.grownBy w0 w3 r→w0.heap.size≤B→World.grownBy w0 w' r)→R (.returned (.tuple #[.agg #[v0,v1,v2,v3,v4,v5,v6],u3])) w'):bodyPost Tryz.prog Tryz.f36 R Exit.ret { tmps:=tmps,defers:=[] } (set7 w3 B v0 v1 v2 v3 v4 v5 v6):=by
 have hz4:=set7_at hz v0 v1 v2 v3 v4 v5 v6;have hR4:=hR _ (fun k hk=>set7_other w3 B k v0 v1 v2 v3 v4 v5 v6 hk) (set7_size w3 B v0 v1 v2 v3 v4 v5 v6) (fun w0 r hg hB=>set7_gr hg hB v0 v1 v2 v3 v4 v5 v6);generalize set7 w3 B v0 v1 v2 v3 v4 v5 v6=w4 at *;obtain⟨y0,y1,y2,y3,y4,y5,y6,yf⟩:=cells7 hz4;simp only[Array.getD_eq_getD_getElem?]at h2 h3;exact bodyPost_ret (v:=.tuple #[.agg #[v0,v1,v2,v3,v4,v5,v6],u3]) (by simp[results,Tryz.results36,go_sem,h2,h3,y0,y1,y2,y3,y4,y5,y6]) rfl hR4
theorem fk_reta {w3:World}{B:Nat}{a0 a1 a2 a3 a4 a5 a6 v0 v1 v2 v3 v4 v5 v6 u3:Value}{o:Obj}{tmps:Array Value}{R:Ending→World→Prop}(h2:tmps.getD 4 undef=.pointer (some ⟨B,0,none⟩))(h3:tmps.getD 5 undef=u3)
  (hz:w3.heap[B]?=some (.cells #[a0,a1,a2,a3,a4,a5,a6] 30 (0,0)))
  (hR:∀w',(∀w0 r,World.grownBy w0 w3 r→w0.heap.size≤B→World.grownBy w0 w' r)→R (.returned (.tuple #[.agg #[v0,v1,v2,v3,v4,v5,v6],u3])) w'):bodyPost Tryz.prog Tryz.f36 R Exit.ret { tmps:=tmps,defers:=[] } ((set7 w3 B v0 v1 v2 v3 v4 v5 v6).alloc o):=by
 have hz4:=set7_a hz (xgl hz) v0 v1 v2 v3 v4 v5 v6 o;have hR4:=hR _ (fun w0 r hg hB=>set7_ag hg hB v0 v1 v2 v3 v4 v5 v6 o);generalize (set7 w3 B v0 v1 v2 v3 v4 v5 v6).alloc o=w4 at *;obtain⟨y0,y1,y2,y3,y4,y5,y6,yf⟩:=cells7 hz4;simp only[Array.getD_eq_getD_getElem?]at h2 h3;exact bodyPost_ret (v:=.tuple #[.agg #[v0,v1,v2,v3,v4,v5,v6],u3]) (by simp[results,Tryz.results36,go_sem,h2,h3,y0,y1,y2,y3,y4,y5,y6]) rfl hR4
def FkPost (pf:By→Nat)(ff:Nat→By)(S:Nat→Prop)(w w':World)(kids:List OB)(kk:Int)(ksv:Value)(e:Ending):Prop :=
 ∃(v:Value) (b:Bool),e=.returned (.tuple #[v,.bool b])∧Shape7 v∧w.grownBy w' none ∧
  (b=true→∃(ps:List PO) (vs:Value) (cells:List Value) (S':Nat→Prop),Imgs2 ps kids∧okSs ff (RR pf ff) ps∧v=.agg #[.int .i64 kk,.int .i64 0,.int .i64 0,.float .f64 0,.string ⟨#[]⟩,ksv,vs] ∧
   SlAt S' w' vs 7 (valPs ps).length cells∧IsVs S' w' (valPs ps) cells∧(∀k,S' k→(S k∨w.heap.size≤k)∧k<w'.heap.size))
theorem okRs_snoc {ff:Nat→By}{R:Nat→Prop} : ∀ {ps:List PO} {p:PO},okRs ff R ps→okR ff R p→okRs ff R (ps++[p])
 | [],p,_,h=>by simp only[List.nil_append,okRs];exact⟨h,trivial⟩
 | q::ps,p,hs,h=>by simp only[List.cons_append,okRs]at hs⊢;exact⟨hs.1,okRs_snoc hs.2 h⟩
theorem srPs_snoc:∀ {ps:List PO} {p:PO},srPs ps→srP p→srPs (ps++[p])
 | [],p,_,h=>by simp only[List.nil_append,srPs];exact⟨h,trivial⟩
 | q::ps,p,hs,h=>by simp only[List.cons_append,srPs]at hs⊢;exact⟨hs.1,srPs_snoc hs.2 h⟩
theorem okSs_snoc {ff:Nat→By}{R:Nat→Prop}{ps:List PO}{p:PO}(h:okSs ff R ps)(hp:okS ff R p):okSs ff R (ps++[p]):=⟨okRs_snoc h.1 hp.1,srPs_snoc h.2 hp.2⟩
theorem fk_any (pf:By→Nat)(ff:Nat→By)(W0:World)(kids:List OB)(hP:∀p∈kids,FoC pf ff W0 p∧wfB p)(hlen:kids.length*96≤140737488351232)(kk k i0 g:Int)(r:Nat)(z:ByteArray)(kso:Option Addr)(ksn ksc:Nat)(ko vo:Option Addr)(kn kc vc:Nat)
  (S:Nat→Prop)(w:World)(hV:KidAt S w vo kids)(hvc:kids.length≤vc)(hS:∀k,S k→k<w.heap.size)(hE:Env W0 w) :
  Calls Tryz.prog 36 #[.agg #[.int .i64 kk,.int .i64 0,.int .i64 0,.float .f64 0,.string ⟨#[]⟩,.slice kso ksn ksc,.slice none 0 0],.agg #[.int .i64 k,.int .i64 i0,.int .i64 g,.float .f64 r,.string z,.slice ko kn kc,.slice vo kids.length vc]] w fun e w'=>FkPost pf ff S w w' kids kk (.slice kso ksn ksc) e:=by
 obtain⟨N,hN⟩:∃N,N=kids.length:=⟨_,rfl⟩;rw[←hN]at hlen hvc⊢;obtain⟨HN,HP,HV,HS,HE⟩:=xh5 hN hP hV hS hE;obtain⟨xobj,hxobj⟩:∃x,x=Obj.cells #[.int .i64 k,.int .i64 i0,.int .i64 g,.float .f64 r,.string z,.slice ko kn kc,.slice vo N vc] 26 (0,0):=⟨_,rfl⟩;obtain⟨q0,q1,q2,q3⟩:=alloc3 w (.cells #[.int .i64 kk,.int .i64 0,.int .i64 0,.float .f64 0,.string ⟨#[]⟩,.slice kso ksn ksc,.slice none 0 0] 30) (.cells #[.int .i64 k,.int .i64 i0,.int .i64 g,.float .f64 r,.string z,.slice ko kn kc,.slice vo N vc] 26) Z30;have hGW:w.grownBy (((w.alloc (.cells #[.int .i64 kk,.int .i64 0,.int .i64 0,.float .f64 0,.string ⟨#[]⟩,.slice kso ksn ksc,.slice none 0 0] 30)).alloc (.cells #[.int .i64 k,.int .i64 i0,.int .i64 g,.float .f64 r,.string z,.slice ko kn kc,.slice vo N vc] 26)).alloc Z30) none:=gr_alloc (gr_alloc (gr_alloc (xgr w none) _) _) _;obtain⟨W,hW⟩:∃W,W=(((w.alloc (.cells #[.int .i64 kk,.int .i64 0,.int .i64 0,.float .f64 0,.string ⟨#[]⟩,.slice kso ksn ksc,.slice none 0 0] 30)).alloc (.cells #[.int .i64 k,.int .i64 i0,.int .i64 g,.float .f64 r,.string z,.slice ko kn kc,.slice vo N vc] 26)).alloc Z30):=⟨_,rfl⟩;rw[←hW]at q0 q1 q2 hGW;clear hP hV hS hE hN q3;have hJ0:FkJ ff (RR pf ff) w W S 0 kids kk (.slice kso ksn ksc) xobj none 0 0 [] (fun _=>False) []:=⟨q0,by rw[hxobj];exact q1,q2,World.ownsRow_nil _ _ _ _,by simp[valPs,IsVs],(by simpa using Imgs2.nil),okSs_nil _ _,fun k hk=>hk.elim,hGW⟩;have HJ0:=xhd hJ0;obtain⟨y0,y1,y2,y3,y4,y5,y6,yf⟩:=cells7 q1;have Hxo:=xhd hxobj
 clear hJ0 q0 q1 q2 hGW hxobj;go_enter Tryz.func36,Tryz.ntmps36
 go_upto_region 1 with (fail)
 unfold Z30 at hW;rw[←hW];clear hW;go_wp2_with fail
 clear y0 y1 y2 y3 y4 y5 y6 yf
 go_loopg [13] N (fun gg t13 wr=>∃i so sn sc cells2 S2 ps,t13=.int .i64 (i:Nat)∧gg=N-i∧i≤N∧FkJ ff (RR pf ff) w wr S i kids kk (.slice kso ksn ksc) xobj so sn sc cells2 S2 ps)
 case atStart=>exact⟨0,none,0,0,[],_,[],rfl,rfl,Nat.zero_le _,HJ0.out⟩
 case round =>
  clear HJ0;obtain⟨i,so,sn,sc,cells2,S2,ps,rfl,hg,hi,hJ⟩:=hrel;obtain⟨HJ,Hg⟩:=xh2 hJ hg;obtain⟨v0,v1,v2,v3,v4,v5,v6,vf⟩:=cells7 hJ.vcell;obtain⟨z0,z1,z2,z3,z4,z5,z6,zf⟩:=cells7 hJ.res;clear hJ hg
  by_cases hiN:i<N
  ·obtain⟨pi,hpi⟩:∃p,kids[i]?=some p:=⟨_,List.getElem?_eq_getElem (by rw[←HN.out];exact hiN)⟩
   obtain⟨b0,j0,hvo,hSb,pko,pkc,pvo,pvc,hIi,hci⟩:=HV.out i pi hpi;subst hvo;have hblk:∀k,S k→wr.heap[k]?=w.heap[k]?:=fun k hk=>HJ.out.grow.block k (HS.out k hk) (by simp);have hcc:∀m u,(b7 pi (.slice pko pi.keys.length pkc) (.slice pvo pi.kids.length pvc))[m]?=some u→wr.cell? ⟨b0,j0+i*7+m,none⟩=some u:=fun m u hm=>(World.cell?_of_block (hblk b0 hSb)).trans (hci m u hm);have e0:wr.cell? ⟨b0,j0+i*7,none⟩=_:=hcc 0 _ rfl;have e1:=hcc 1 _ rfl;have e2:=hcc 2 _ rfl;have e3:=hcc 3 _ rfl;have e4:=hcc 4 _ rfl;have e5:=hcc 5 _ rfl;have e6:=hcc 6 _ rfl;obtain⟨hP1,hP4⟩:=HP.out pi (List.mem_of_getElem? hpi);have hcall:=fun (w2:World) (hg2:wr.grownBy w2 none)=>hP1 S w2 (.slice pko pi.keys.length pkc) (.slice pvo pi.kids.length pvc) hP4 (IsB.keep (S':=S) (fun k hk=>⟨hk,(hg2.block k (Nat.lt_of_lt_of_le (HS.out k hk) HJ.out.grow.size) (by simp)).trans (hblk k hk)⟩) _ _ _ hIi) (fun k hk=>Nat.lt_of_lt_of_le (Nat.lt_of_lt_of_le (HS.out k hk) HJ.out.grow.size) hg2.size) ((HE.out.grown0 HJ.out.grow).grown0 hg2);have Hpi:=xhd hpi;have hnm:(i:Int)<N:=by omega
   have Hcall:=xhd hcall;clear hcall hcc hIi hci hpi hblk hP1 hP4;unfold obV at Hcall;generalize pi.k=k1 at *;generalize pi.i=k2 at *;generalize pi.g=k3 at *;generalize pi.r=k4 at *;generalize bs pi.t=k5 at *;generalize pi.keys.length=k6 at *;generalize pi.kids.length=k7 at *;go_wp2_with fail
   obtain⟨Wa,hWa⟩:∃Wa,Wa=wr.alloc (.cells #[.int .i64 k1,.int .i64 k2,.int .i64 k3,.float .f64 k4,.string k5,.slice pko k6 pkc,.slice pvo k7 pvc] 26):=⟨_,rfl⟩;have hga:wr.grownBy Wa none:=by rw[hWa];exact gr_alloc (xgr _ _) _
   rw[←hWa];refine(Hcall.out Wa hga).mono ?_;rintro e w2⟨v,b,rfl,hsh,hg2,hb2⟩;have hg2':=hga.trans hg2;have hv2:=(hg2'.block _ (Array.getElem?_eq_some_iff.1 HJ.out.vcell).1 (by simp)).trans HJ.out.vcell;have hx2:=(hg2'.block _ (Array.getElem?_eq_some_iff.1 HJ.out.xcell).1 (by simp)).trans HJ.out.xcell;have hz2:=(hg2'.block _ (Array.getElem?_eq_some_iff.1 HJ.out.res).1 (by simp)).trans HJ.out.res;have Hrow2:=xhd (row_keptB HJ.out.row hg2' (fun k hk=>by simp));obtain⟨Hga,Hg2,Hv2,Hx2,Hz2,Hb2⟩:=xh6 hga.size hg2' hv2 hx2 hz2 hb2;have Hw2:=xhd (show w.heap.size+3≤w2.heap.size by have:=(xgl hz2);omega);clear v0 v1 v2 v3 v4 v5 v6 vf z0 z1 z2 z3 z4 z5 z6 zf e0 e1 e2 e3 e4 e5 e6;obtain⟨v0,v1,v2,v3,v4,v5,v6,vf⟩:=cells7 hv2;obtain⟨z0,z1,z2,z3,z4,z5,z6,zf⟩:=cells7 hz2;have hltR:w.heap.size+1+1<w2.heap.size:=(xgl hz2);have hltV:w.heap.size<w2.heap.size:=(xgl hv2);clear hWa hga hg2 hg2' hv2 hx2 hz2 hb2
   cases b
   ·obtain⟨sk,sn2,sg,sx,st,so1,sn1,sc1,so2,sn3,sc2,rfl⟩:=hsh
    go_wp2_with fail
    refine fk_reta rfl rfl Hz2.out ?_;intro w' hgr;exact⟨_,false,rfl,⟨_,_,_,_,_,_,_,_,_,_,_,rfl⟩,hgr _ _ (HJ.out.grow.trans Hg2.out) (by omega),fun h=>by cases h⟩
   ·obtain⟨p,ks3,vs3,S3,himg,hok,rfl,hI3,hS3⟩:=Hb2.out rfl
    obtain⟨⟨ko3,kn3,kc3,rfl⟩,⟨vo3,vn3,vc3,rfl⟩⟩:=IsV.slices hI3;obtain⟨q,hq⟩:∃q,q=valP p:=⟨_,rfl⟩;rw[←hq]at hI3⊢;obtain⟨HI3,HS3,Himg,Hok,Hq⟩:=xh5 hI3 hS3 himg hok hq;obtain⟨ti,hti,htz0,htz1,htz2⟩:=info_parts Tryz.info30;clear hsh Hb2 hI3 hS3 himg hok hq;unfold valOf;go_wp2_with (first|(at_builtin;refine wpList_append_own_at _ rfl _ _ 28 rfl (w.heap.size+3) 30 ti _ 7 96 Tryz.underlying28 hti htz0 htz1 htz2 rfl (by decide) _ _ _ rfl (World.ownsRow.alloc (World.ownsRow.alloc Hrow2.out _) _) ⟨w2.heap.size+1,0,none⟩ 1 1 (c7 q (.slice ko3 kn3 kc3) (.slice vo3 vn3 vc3)) (by rfl) (by rfl) (World.news_of_block (alloc2 w2 w2.heap.size rfl _ _).2) (by simp[Value.oneCell',c7]) (by unfold maxLen;omega) (by omega) (by have:=Hw2.out;simp;omega) ?_))
    intro v7 w7 ho7 hg7 _ hat7
    have hshape:∃gg cap,v7=.slice (some ⟨gg,0,none⟩) (i+1) cap:=by
     rcases ho7.2 with⟨_,h0⟩|⟨gg,cap,cur,h,_⟩
     ·exact absurd h0 (by omega)
     ·exact⟨gg,cap,h⟩
    obtain⟨gg,cap7,rfl⟩:=hshape;have hwi:IntKind.i64.wrap ((i:Int)+1)=(i:Int)+1:=IntWalk.i64_in _ (by omega);have hg27:=gr_alloc_then (gr_alloc_then hg7);have hrl:=World.ownsRow.lt HJ.out.row;have hv7:=(hg27.block _ (xgl Hv2.out) (fun e=>by have:=hrl _ e.symm;omega)).trans Hv2.out;have hx7:=(hg27.block _ (xgl Hx2.out) (fun e=>by have:=hrl _ e.symm;omega)).trans Hx2.out;have hz7:=(hg27.block _ (xgl Hz2.out) (fun e=>by have:=hrl _ e.symm;omega)).trans Hz2.out;clear v0 v1 v2 v3 v4 v5 v6 vf z0 z1 z2 z3 z4 z5 z6 zf;obtain⟨v0,v1,v2,v3,v4,v5,v6,vf⟩:=cells7 hv7;obtain⟨Hg7,Ho7,Hv7,Hx7,Hz7⟩:=xh5 hg27 ho7 hv7 hx7 hz7
    have Hat7:=xhd (show (Value.slice so sn sc).ownBlock=some gg∨w2.heap.size≤gg from by
     rcases hat7 with h|h
     ·left;rw[←h];rfl
     ·right;simp[Value.ownBlock]at h;omega)
    clear hg7 ho7 hat7 hg27 hv7 hz7 hx7 hrl;go_wp2_with fail
    go_roundg (N-(i+1))
    case measure=>rw[Hg.out];omega
    case rel =>
     have hJ:=HJ.out;have hrl:=World.ownsRow.lt hJ.row;have hs2:=Hg2.out.size;have hs7:=Hg7.out.size;have hsa:=Hga.out;have hw:=hJ.grow.size;have hst:=gr_set (xgr w7 (some w.heap.size)) 6 (.slice (some ⟨gg,0,none⟩) (i+1) cap7);have hsz:=hst.size;have hrl7:=World.ownsRow.lt Ho7.out;have hgg:=hrl7 gg rfl;have hvl:=(Array.getElem?_eq_some_iff.1 hJ.vcell).1;have hzl:=(Array.getElem?_eq_some_iff.1 hJ.res).1;refine⟨i+1,_,_,_,_,fun k=>S2 k∨S3 k,ps++[p],by simp,rfl,by omega,⟨cells7_set6 Hv7.out _,(hst.block _ (xgl Hx7.out) (fun e=>by injection e with e;omega)).trans Hx7.out,(hst.block _ (xgl Hz7.out) (fun e=>by injection e with e;omega)).trans Hz7.out,row_keptB Ho7.out hst (fun k hk e=>by injection e with e;have:=hrl7 k hk;omega),?_,?_,okSs_snoc hJ.ok Hok.out,?_,?_⟩⟩
     ·have htk:valPs (ps++[p])=valPs ps++[q]:=by rw[valPs_map,valPs_map,List.map_append,Hq.out];rfl
      rw[htk];refine IsVs.append (IsVs.one (IsV.keep (fun k hk=>⟨.inr hk,?_⟩) _ _ _ HI3.out)) _ _ (IsVs.keep (fun k hk=>⟨.inl hk,?_⟩) _ _ hJ.objs)
      ·have h1:=HS3.out k hk
       have h2:k≠w.heap.size:=by
        rcases h1.1 with h|h
        ·have:=HS.out k h;omega
        ·omega
       refine(hst.block k (by omega) (by simp;omega)).trans (Hg7.out.block k h1.2 (fun e=>?_));have h3:=hrl k e.symm;rcases h1.1 with h|h
       ·have:=HS.out k h;omega
       ·omega
      ·have h1:=hJ.bnd k hk
       have h2:k≠w.heap.size:=by
        rcases h1.1 with h|h
        ·have:=HS.out k h;omega
        ·omega
       exact(hst.block k (by omega) (by simp;omega)).trans ((Hg7.out.block k (by omega) (fun e=>h1.2.2 e.symm)).trans (Hg2.out.block k h1.2.1 (by simp)))
     ·rw[List.take_add_one,Hpi.out]
      exact Imgs2.snoc hJ.img Himg.out
     ·intro k hk
      rcases hk with hk|hk
      ·have h1:=hJ.bnd k hk
       refine⟨h1.1,by omega,fun e=>?_⟩;have e:gg=k:=by simpa[Value.ownBlock] using e
       rcases Hat7.out with h|h
       ·exact h1.2.2 (h.trans (by rw[e]))
       ·omega
      ·have h1:=HS3.out k hk
       refine⟨by rcases h1.1 with h|h;exact .inl h;exact .inr (by omega),by omega,fun e=>?_⟩;have e:gg=k:=by simpa[Value.ownBlock] using e
       rcases Hat7.out with h|h
       ·have h5:=hrl gg h
        rcases h1.1 with h4|h4
        ·have:=HS.out k h4;omega
        ·omega
       ·omega
     ·exact gr_noneThen (gr_noneThen (hJ.grow.trans Hg2.out) Hg7.out (fun j hj=>by have:=hrl j hj;omega)) hst (fun j hj=>by injection hj with hj;omega)
  ·obtain rfl:i=N:=by omega
   have hnm:¬(i:Int)<i:=by omega
   go_wp2_with fail
   refine fk_ret rfl rfl HJ.out.res ?_;intro w' hk hsz hgr;have hJ:=HJ.out;have hrl:=World.ownsRow.lt hJ.row
   have hne:∀k,(S2 k∨(Value.slice so sn sc).ownBlock=some k)→k≠w.heap.size+1+1:=fun k hk=>by
    rcases hk with hk|hk
    ·rcases (hJ.bnd k hk).1 with h|h
     ·have:=HS.out k h;omega
     ·omega
    ·have:=hrl k hk;omega
   have hO:=IsVs.keep (S':=fun k=>S2 k∨(Value.slice so sn sc).ownBlock=some k) (w':=w') (fun k hk'=>⟨.inl hk',hk k (hne k (.inl hk'))⟩) _ _ hJ.objs;have himg:=hJ.img;rw[List.take_of_length_le (by have:=HN.out;omega)]at himg;have hlen2:(valPs ps).length=i:=by rw[valPs_map,List.length_map,Imgs.len himg.1,←HN.out]
   have hSl:=(SlAt.of_row hJ.row (fun k=>(Value.slice so sn sc).ownBlock=some k) (fun k hk=>hk)).keep (S':=fun k=>S2 k∨(Value.slice so sn sc).ownBlock=some k) (w':=w') (fun k hk'=>⟨.inr hk',hk k (hne k (.inr hk'))⟩)
   have hbnd:∀k,(S2 k∨(Value.slice so sn sc).ownBlock=some k)→(S k∨w.heap.size≤k)∧k<w'.heap.size:=fun k hk=>by
    rw[hsz];rcases hk with hk|hk
    ·have:=hJ.bnd k hk
     exact⟨by rcases this.1 with h|h;exact .inl h;exact .inr (by omega),this.2.1⟩
    ·have:=hrl k hk
     exact⟨.inr (by omega),this.2⟩
   exact⟨_,true,rfl,⟨_,_,_,_,_,_,_,_,_,_,_,rfl⟩,hgr _ _ hJ.grow (by omega),fun _=>⟨ps,.slice so sn sc,cells2,_,himg,hJ.ok,rfl,by rw[hlen2];exact hSl,hO,hbnd⟩⟩
def ObL (w w':World)(v:Value)(e:Ending):Prop:=e=.returned (.tuple #[v,.bool true])∧w.grownBy w' none
section
variable (i g:Int) (r:Nat) (z:ByteArray) (ko vo:Option Addr) (kn kc vn vc:Nat) (w:World)
theorem ob_null:Calls Tryz.prog 21 #[.agg #[.int .i64 0,.int .i64 i,.int .i64 g,.float .f64 r,.string z,.slice ko kn kc,.slice vo vn vc]] w fun e w'=>ObL w w' .nilIface e:=by
 go_enter Tryz.func21,Tryz.ntmps21;go_wp2_with fail
 go_ret2;exact⟨rfl,gr_alloc (xgr _ _) _⟩
theorem ob_btrue:Calls Tryz.prog 21 #[.agg #[.int .i64 1,.int .i64 1,.int .i64 g,.float .f64 r,.string z,.slice ko kn kc,.slice vo vn vc]] w fun e w'=>ObL w w' (.iface 66 (.bool true)) e:=by
 go_enter Tryz.func21,Tryz.ntmps21;go_wp2_with fail
 go_ret2;exact⟨rfl,gr_alloc (xgr _ _) _⟩
theorem ob_bfalse:Calls Tryz.prog 21 #[.agg #[.int .i64 1,.int .i64 0,.int .i64 g,.float .f64 r,.string z,.slice ko kn kc,.slice vo vn vc]] w fun e w'=>ObL w w' (.iface 66 (.bool false)) e:=by
 go_enter Tryz.func21,Tryz.ntmps21;go_wp2_with fail
 go_ret2;exact⟨rfl,gr_alloc (xgr _ _) _⟩
theorem ob_int:Calls Tryz.prog 21 #[.agg #[.int .i64 2,.int .i64 i,.int .i64 g,.float .f64 r,.string z,.slice ko kn kc,.slice vo vn vc]] w fun e w'=>ObL w w' (.iface 67 (.int .i64 i)) e:=by
 go_enter Tryz.func21,Tryz.ntmps21;go_wp2_with fail
 go_ret2;exact⟨rfl,gr_alloc (xgr _ _) _⟩
theorem ob_real:Calls Tryz.prog 21 #[.agg #[.int .i64 3,.int .i64 i,.int .i64 g,.float .f64 r,.string z,.slice ko kn kc,.slice vo vn vc]] w fun e w'=>ObL w w' (.iface 68 (.float .f64 r)) e:=by
 go_enter Tryz.func21,Tryz.ntmps21;go_wp2_with fail
 go_ret2;exact⟨rfl,gr_alloc (xgr _ _) _⟩
theorem ob_lit:Calls Tryz.prog 21 #[.agg #[.int .i64 4,.int .i64 i,.int .i64 g,.float .f64 r,.string z,.slice ko kn kc,.slice vo vn vc]] w fun e w'=>ObL w w' (.iface 69 (.string z)) e:=by
 go_enter Tryz.func21,Tryz.ntmps21;go_wp2_with fail
 go_ret2;exact⟨rfl,gr_alloc (xgr _ _) _⟩
theorem ob_hexl:Calls Tryz.prog 21 #[.agg #[.int .i64 5,.int .i64 i,.int .i64 g,.float .f64 r,.string z,.slice ko kn kc,.slice vo vn vc]] w fun e w'=>ObL w w' (.iface 70 (.string z)) e:=by
 go_enter Tryz.func21,Tryz.ntmps21;go_wp2_with fail
 go_ret2;exact⟨rfl,gr_alloc (xgr _ _) _⟩
theorem ob_name:Calls Tryz.prog 21 #[.agg #[.int .i64 6,.int .i64 i,.int .i64 g,.float .f64 r,.string z,.slice ko kn kc,.slice vo vn vc]] w fun e w'=>ObL w w' (.iface 71 (.string z)) e:=by
 go_enter Tryz.func21,Tryz.ntmps21;go_wp2_with fail
 go_ret2;exact⟨rfl,gr_alloc (xgr _ _) _⟩
theorem ob_ref:Calls Tryz.prog 21 #[.agg #[.int .i64 9,.int .i64 i,.int .i64 g,.float .f64 r,.string z,.slice ko kn kc,.slice vo vn vc]] w fun e w'=>ObL w w' (.iface 73 (.agg #[.int .i64 i,.int .i64 g])) e:=by
 go_enter Tryz.func21,Tryz.ntmps21;go_wp2_with fail
 refine(newref_any i g _).mono ?_;rintro e w1⟨rfl,hw⟩;subst w1;go_wp2_with fail
 go_ret2;exact⟨rfl,gr_alloc (gr_alloc (xgr _ _) _) _⟩
end
def ObPost (p:PO)(w w':World)(e:Ending):Prop:=∃v S',e=.returned (.tuple #[v,.bool true])∧ObjO S' w' p v∧(∀k,S' k→w.heap.size≤k∧k<w'.heap.size)∧w.grownBy w' none
def ObC (p:PO)(o:OB):Prop:=∀(S:Nat→Prop) (w:World) (ks vs:Value),IsB S w o ks vs→(∀k,S k→k<w.heap.size)→Calls Tryz.prog 21 #[obV o ks vs] w fun e w'=>ObPost p w w' e
structure OsJ (w wr:World)(i:Nat)(ps:List PO)(sl:Value)(cells:List Value)(S2:Nat→Prop):Prop where
 row:wr.ownsRow w.heap.size 50 1 sl i cells
 objs:ObjOs S2 wr (ps.take i) cells
 bnd:∀k,S2 k→w.heap.size≤k∧k<wr.heap.size∧sl.ownBlock≠some k
 grow:w.grownBy wr none
def OsPost (ps:List PO)(w w':World)(e:Ending):Prop:=∃sl cells S',e=.returned (.tuple #[sl,.bool true])∧SlAt S' w' sl 1 ps.length cells∧ObjOs S' w' ps cells∧(∀k,S' k→w.heap.size≤k∧k<w'.heap.size)∧w.grownBy w' none
theorem objs_any (ps:List PO)(kids:List OB)(hlen:ps.length=kids.length)(hl2:kids.length≤20000)(hP:∀(i:Nat) p o,ps[i]?=some p→kids[i]?=some o→ObC p o)(vo:Option Addr)(vc:Nat)(S:Nat→Prop)(w:World)(hV:KidAt S w vo kids)(hvc:kids.length≤vc)(hS:∀k,S k→k<w.heap.size) :
  Calls Tryz.prog 39 #[.slice vo kids.length vc] w fun e w'=>OsPost ps w w' e:=by
 obtain⟨N,hN⟩:∃N,N=kids.length:=⟨_,rfl⟩;rw[←hN]at hlen hvc hl2⊢;obtain⟨HN,Hlen,HP,HV,HS⟩:=xh5 hN hlen hP hV hS;clear hN hlen hP hV hS;go_enter Tryz.func39,Tryz.ntmps39;go_wp2_with fail
 have hrow0:(w.alloc (.cells #[] 50)).ownsRow w.heap.size 50 1 (.slice (some ⟨w.heap.size,0,none⟩) 0 0) 0 []:=⟨rfl,.inr ⟨w.heap.size,0,#[],rfl,Nat.le_refl _,heap_alloc_new w _,Nat.le_refl _,by decide,rfl,rfl⟩⟩;have HJ0:=xhd (show OsJ w (w.alloc (.cells #[] 50)) 0 ps (.slice (some ⟨w.heap.size,0,none⟩) 0 0) [] (fun _=>False) from⟨hrow0,by simp[ObjOs],fun k hk=>hk.elim,gr_alloc (xgr _ _) _⟩);clear hrow0
 go_loopg [4,12] N (fun gg t4 t12 wr=>∃i so sn sc cells S2,t4=.slice so sn sc∧t12=.int .i64 (i:Nat)∧gg=N-i∧i≤N∧OsJ w wr i ps (.slice so sn sc) cells S2)
 case atStart=>exact⟨0,_,_,_,[],_,rfl,rfl,rfl,Nat.zero_le _,HJ0.out⟩
 case round =>
  clear HJ0;obtain⟨i,so,sn,sc,cells,S2,rfl,rfl,hg,hi,hJ⟩:=hrel;obtain⟨HJ,Hg⟩:=xh2 hJ hg;clear hJ hg
  by_cases hiN:i<N
  ·have hnm:(i:Int)<N:=by omega
   have hwi:IntKind.i64.wrap ((i:Int)+1)=(i:Int)+1:=IntWalk.i64_in _ (by omega);obtain⟨oi,hoi⟩:∃o,kids[i]?=some o:=⟨_,List.getElem?_eq_getElem (by rw[←HN.out];exact hiN)⟩;obtain⟨pi,hpi⟩:∃p,ps[i]?=some p:=⟨_,List.getElem?_eq_getElem (by rw[Hlen.out];exact hiN)⟩;obtain⟨b0,j0,hvo,hSb,pko,pkc,pvo,pvc,hIi,hci⟩:=HV.out i oi hoi;subst hvo;have hblk:∀k,S k→wr.heap[k]?=w.heap[k]?:=fun k hk=>HJ.out.grow.block k (HS.out k hk) (by simp);have hcc:∀m u,(b7 oi (.slice pko oi.keys.length pkc) (.slice pvo oi.kids.length pvc))[m]?=some u→wr.cell? ⟨b0,j0+i*7+m,none⟩=some u:=fun m u hm=>(World.cell?_of_block (hblk b0 hSb)).trans (hci m u hm);have e0:wr.cell? ⟨b0,j0+i*7,none⟩=_:=hcc 0 _ rfl;have e1:=hcc 1 _ rfl;have e2:=hcc 2 _ rfl;have e3:=hcc 3 _ rfl;have e4:=hcc 4 _ rfl;have e5:=hcc 5 _ rfl;have e6:=hcc 6 _ rfl;have hcall:=fun (w2:World) (hg2:wr.grownBy w2 none)=>HP.out i pi oi hpi hoi S w2 _ _ (IsB.keep (S':=S) (fun k hk=>⟨hk,(hg2.block k (Nat.lt_of_lt_of_le (HS.out k hk) HJ.out.grow.size) (by simp)).trans (hblk k hk)⟩) _ _ _ hIi) (fun k hk=>Nat.lt_of_lt_of_le (Nat.lt_of_lt_of_le (HS.out k hk) HJ.out.grow.size) hg2.size);obtain⟨Hpi,Hcall⟩:=xh2 hpi hcall;clear hcall hcc hIi hci hpi hoi hblk;unfold obV at Hcall;generalize oi.k=k1 at *;generalize oi.i=k2 at *;generalize oi.g=k3 at *;generalize oi.r=k4 at *;generalize bs oi.t=k5 at *;generalize oi.keys.length=k6 at *;generalize oi.kids.length=k7 at *;go_wp2_with fail
   obtain⟨Wa,hWa⟩:∃Wa,Wa=wr.alloc (.cells #[.int .i64 k1,.int .i64 k2,.int .i64 k3,.float .f64 k4,.string k5,.slice pko k6 pkc,.slice pvo k7 pvc] 26):=⟨_,rfl⟩;have hga:wr.grownBy Wa none:=by rw[hWa];exact gr_alloc (xgr _ _) _
   rw[←hWa];refine(Hcall.out Wa hga).mono ?_;rintro e w2⟨v,S3,rfl,hO,hS3,hg2⟩;have hg2':=hga.trans hg2;have Hrow2:=xhd (row_keptB HJ.out.row hg2' (fun k hk=>by simp));obtain⟨Hga,Hg2,HO,HS3⟩:=xh4 hga.size hg2' hO hS3
   have hv1:v.oneCell'=true:=by
    rcases hO.nil_or with⟨_,rfl⟩|⟨_,ty,u,rfl⟩<;>simp[Value.oneCell']
   have Hv1:=xhd hv1;obtain⟨ti,hti,htz0,htz1,htz2⟩:=info_parts Tryz.info50';have hw2s:w.heap.size≤w2.heap.size:=Nat.le_trans HJ.out.grow.size hg2'.size;have hnil:=xhd hO.nil_or;clear e0 e1 e2 e3 e4 e5 e6 hWa hga hg2 hg2' hO hS3 hv1;rcases hnil.out with⟨_,rfl⟩|⟨_,ty,u,rfl⟩
   ·skip
    go_wp2_with (first|(at_builtin;refine wpList_append_own_at _ rfl _ _ 77 rfl w.heap.size 50 ti .nilIface 1 16 Tryz.underlying77 hti htz0 htz1 htz2 rfl (by decide) _ _ _ rfl (World.ownsRow.alloc Hrow2.out _) ⟨w2.heap.size,0,none⟩ 1 1 [.nilIface] rfl rfl (cell_one_new _ _ _) (by intro u' hu;simp at hu;subst hu;simp[Value.oneCell']) (by unfold maxLen;omega) (by omega) (by simp;omega) ?_))
    intro v7 w7 ho7 hg7 _ hat7
    have hshape:∃gg cap,v7=.slice (some ⟨gg,0,none⟩) (i+1) cap:=by
     rcases ho7.2 with⟨_,h0⟩|⟨gg,cap,cur,h,_⟩
     ·exact absurd h0 (by omega)
     ·exact⟨gg,cap,h⟩
    obtain⟨gg,cap7,rfl⟩:=hshape;have hg27:=gr_alloc_then hg7;obtain⟨Hg7,Ho7⟩:=xh2 hg27 ho7
    have Hat7:=xhd (show (Value.slice so sn sc).ownBlock=some gg∨w2.heap.size≤gg from by
     rcases hat7 with h|h
     ·left;rw[←h];rfl
     ·right;simp[Value.ownBlock]at h;omega)
    clear hg7 ho7 hat7 hg27;go_wp2_with fail
    go_roundg (N-(i+1))
    case measure=>rw[Hg.out];omega
    case rel =>
     have hJ:=HJ.out;have hrl:=World.ownsRow.lt hJ.row;have hs2:=Hg2.out.size;have hs7:=Hg7.out.size;have hsa:=Hga.out;have hw:=hJ.grow.size;refine⟨i+1,_,_,_,_,fun k=>S2 k∨S3 k,rfl,by simp,rfl,by omega,⟨Ho7.out,?_,?_,?_⟩⟩
     ·rw[List.take_add_one,Hpi.out]
      refine ObjOs.append (ObjOs.one (ObjO.keep (fun k hk=>⟨.inr hk,?_⟩) _ _ HO.out)) _ _ (ObjOs.keep (fun k hk=>⟨.inl hk,?_⟩) _ _ hJ.objs)
      ·have h1:=HS3.out k hk
       exact Hg7.out.block k h1.2 (fun e=>by have h3:=hrl k e.symm;omega)
      ·have h1:=hJ.bnd k hk
       exact(Hg7.out.block k (by omega) (fun e=>h1.2.2 e.symm)).trans (Hg2.out.block k h1.2.1 (by simp))
     ·intro k hk
      rcases hk with hk|hk
      ·have h1:=hJ.bnd k hk
       refine⟨h1.1,by omega,fun e=>?_⟩;have e:gg=k:=by simpa[Value.ownBlock] using e
       rcases Hat7.out with h|h
       ·exact h1.2.2 (h.trans (by rw[e]))
       ·omega
      ·have h1:=HS3.out k hk
       refine⟨by omega,by omega,fun e=>?_⟩;have e:gg=k:=by simpa[Value.ownBlock] using e
       rcases Hat7.out with h|h
       ·have h5:=hrl gg h;omega
       ·omega
     ·exact gr_noneThen (hJ.grow.trans Hg2.out) Hg7.out (fun j hj=>by have:=hrl j hj;omega)
   ·skip
    go_wp2_with (first|(at_builtin;refine wpList_append_own_at _ rfl _ _ 77 rfl w.heap.size 50 ti .nilIface 1 16 Tryz.underlying77 hti htz0 htz1 htz2 rfl (by decide) _ _ _ rfl (World.ownsRow.alloc Hrow2.out _) ⟨w2.heap.size,0,none⟩ 1 1 [.iface ty u] rfl rfl (cell_one_new _ _ _) (by intro u' hu;simp at hu;subst hu;simp[Value.oneCell']) (by unfold maxLen;omega) (by omega) (by simp;omega) ?_))
    intro v7 w7 ho7 hg7 _ hat7
    have hshape:∃gg cap,v7=.slice (some ⟨gg,0,none⟩) (i+1) cap:=by
     rcases ho7.2 with⟨_,h0⟩|⟨gg,cap,cur,h,_⟩
     ·exact absurd h0 (by omega)
     ·exact⟨gg,cap,h⟩
    obtain⟨gg,cap7,rfl⟩:=hshape;have hg27:=gr_alloc_then hg7;obtain⟨Hg7,Ho7⟩:=xh2 hg27 ho7
    have Hat7:=xhd (show (Value.slice so sn sc).ownBlock=some gg∨w2.heap.size≤gg from by
     rcases hat7 with h|h
     ·left;rw[←h];rfl
     ·right;simp[Value.ownBlock]at h;omega)
    clear hg7 ho7 hat7 hg27;go_wp2_with fail
    go_roundg (N-(i+1))
    case measure=>rw[Hg.out];omega
    case rel =>
     have hJ:=HJ.out;have hrl:=World.ownsRow.lt hJ.row;have hs2:=Hg2.out.size;have hs7:=Hg7.out.size;have hsa:=Hga.out;have hw:=hJ.grow.size;refine⟨i+1,_,_,_,_,fun k=>S2 k∨S3 k,rfl,by simp,rfl,by omega,⟨Ho7.out,?_,?_,?_⟩⟩
     ·rw[List.take_add_one,Hpi.out]
      refine ObjOs.append (ObjOs.one (ObjO.keep (fun k hk=>⟨.inr hk,?_⟩) _ _ HO.out)) _ _ (ObjOs.keep (fun k hk=>⟨.inl hk,?_⟩) _ _ hJ.objs)
      ·have h1:=HS3.out k hk
       exact Hg7.out.block k h1.2 (fun e=>by have h3:=hrl k e.symm;omega)
      ·have h1:=hJ.bnd k hk
       exact(Hg7.out.block k (by omega) (fun e=>h1.2.2 e.symm)).trans (Hg2.out.block k h1.2.1 (by simp))
     ·intro k hk
      rcases hk with hk|hk
      ·have h1:=hJ.bnd k hk
       refine⟨h1.1,by omega,fun e=>?_⟩;have e:gg=k:=by simpa[Value.ownBlock] using e
       rcases Hat7.out with h|h
       ·exact h1.2.2 (h.trans (by rw[e]))
       ·omega
      ·have h1:=HS3.out k hk
       refine⟨by omega,by omega,fun e=>?_⟩;have e:gg=k:=by simpa[Value.ownBlock] using e
       rcases Hat7.out with h|h
       ·have h5:=hrl gg h;omega
       ·omega
     ·exact gr_noneThen (hJ.grow.trans Hg2.out) Hg7.out (fun j hj=>by have:=hrl j hj;omega)
  ·obtain rfl:i=N:=by omega
   have hnm:¬(i:Int)<i:=by omega
   go_wp2_with fail
   go_ret2;have hJ:=HJ.out;have hO:=hJ.objs;rw[List.take_of_length_le (by rw[Hlen.out];exact Nat.le_refl _)]at hO;have hrl:=World.ownsRow.lt hJ.row;refine⟨.slice so sn sc,cells,fun k=>S2 k∨(Value.slice so sn sc).ownBlock=some k,rfl,?_,ObjOs.keep (fun k hk=>⟨.inl hk,rfl⟩) _ _ hO,fun k hk=>?_,hJ.grow⟩
   ·rw[Hlen.out]
    exact(SlAt.of_row hJ.row (fun k=>(Value.slice so sn sc).ownBlock=some k) (fun k hk=>hk)).keep (fun k hk=>⟨.inr hk,rfl⟩)
   ·rcases hk with hk|hk
    ·exact⟨(hJ.bnd k hk).1,(hJ.bnd k hk).2.1⟩
    ·exact hrl k hk
structure DcJ (w wr:World)(i:Nat)(keys:List By)(ps:List PO)(cells:List Value)(S2:Nat→Prop):Prop where
 dict:DictAt wr w.heap.size (keys.take i) cells
 objs:ObjOs S2 wr (ps.take i) cells
 bnd:∀k,S2 k→w.heap.size+1≤k∧k<wr.heap.size
 grow:w.grownBy wr none
def DcPost (keys:List By)(ps:List PO)(w w':World)(e:Ending):Prop:=∃cells S',e=.returned (.tuple #[.map (some w.heap.size),.bool true])∧DictAt w' w.heap.size keys cells∧ObjOs S' w' ps cells∧(∀k,S' k→w.heap.size+1≤k∧k<w'.heap.size)∧w.grownBy w' none
theorem dict_obj (keys:List By)(ps:List PO)(kids:List OB)(hkv:keys.length=kids.length)(hnd:keys.Nodup)(hkk:∀k∈keys,k.length≤1000000)(hlen:ps.length=kids.length)(hl2:kids.length≤20000)(hP:∀(i:Nat) p o,ps[i]?=some p→kids[i]?=some o→ObC p o)(ko vo:Option Addr)(kc vc:Nat)(S:Nat→Prop)(w:World)(hK:KeyAt S w ko keys)(hV:KidAt S w vo kids)(hkc:keys.length≤kc)(hvc:kids.length≤vc)(hS:∀k,S k→k<w.heap.size) :
  Calls Tryz.prog 40 #[.slice ko keys.length kc,.slice vo kids.length vc] w fun e w'=>DcPost keys ps w w' e:=by
 obtain⟨N,hN⟩:∃N,N=kids.length:=⟨_,rfl⟩;rw[hkv]at hkc⊢;rw[←hN]at hlen hvc hl2 hkc hkv⊢;obtain⟨HN,Hkv,Hlen,HP,HV,HK,HS,Hnd⟩:=xh8 hN hkv hlen hP hV hK hS hnd;have Hkk:=xhd hkk;have hmk:=run_makeMap (P:=Tryz.prog) 81 w;have HJ0:=xhd (show DcJ w (w.alloc (.map #[] 0)) 0 keys ps [] (fun _=>False) from⟨by simpa using DictAt.new w,by simp[ObjOs],fun k hk=>hk.elim,gr_alloc (xgr _ _) _⟩);clear hN hlen hP hV hK hS hnd hkk hkv;go_enter Tryz.func40,Tryz.ntmps40;go_wp2_with fail
 go_loopg [19] N (fun gg t19 wr=>∃i cells S2,t19=.int .i64 (i:Nat)∧gg=N-i∧i≤N∧DcJ w wr i keys ps cells S2)
 case atStart=>exact⟨0,[],_,rfl,rfl,Nat.zero_le _,HJ0.out⟩
 case round =>
  clear HJ0 hmk;obtain⟨i,cells,S2,rfl,hg,hi,hJ⟩:=hrel;obtain⟨HJ,Hg⟩:=xh2 hJ hg;clear hJ hg
  by_cases hiN:i<N
  ·have hnm:(i:Int)<N:=by omega
   have hwi:IntKind.i64.wrap ((i:Int)+1)=(i:Int)+1:=IntWalk.i64_in _ (by omega);obtain⟨oi,hoi⟩:∃o,kids[i]?=some o:=⟨_,List.getElem?_eq_getElem (by rw[←HN.out];exact hiN)⟩;obtain⟨pi,hpi⟩:∃p,ps[i]?=some p:=⟨_,List.getElem?_eq_getElem (by rw[Hlen.out];exact hiN)⟩;obtain⟨ki,hki⟩:∃k,keys[i]?=some k:=⟨_,List.getElem?_eq_getElem (by rw[Hkv.out];exact hiN)⟩;obtain⟨b0,j0,hvo,hSb,pko,pkc,pvo,pvc,hIi,hci⟩:=HV.out i oi hoi;obtain⟨b1,j1,hko,hSb1,hkc1⟩:=HK.out i ki hki;subst hvo;subst hko;have hblk:∀k,S k→wr.heap[k]?=w.heap[k]?:=fun k hk=>HJ.out.grow.block k (HS.out k hk) (by simp);have hcc:∀m u,(b7 oi (.slice pko oi.keys.length pkc) (.slice pvo oi.kids.length pvc))[m]?=some u→wr.cell? ⟨b0,j0+i*7+m,none⟩=some u:=fun m u hm=>(World.cell?_of_block (hblk b0 hSb)).trans (hci m u hm);have ek:wr.cell? ⟨b1,j1+i,none⟩=some (.string (bs ki)):=(World.cell?_of_block (hblk b1 hSb1)).trans hkc1;have e0:wr.cell? ⟨b0,j0+i*7,none⟩=_:=hcc 0 _ rfl;have e1:=hcc 1 _ rfl;have e2:=hcc 2 _ rfl;have e3:=hcc 3 _ rfl;have e4:=hcc 4 _ rfl;have e5:=hcc 5 _ rfl;have e6:=hcc 6 _ rfl;have hcall:=fun (w2:World) (hg2:wr.grownBy w2 none)=>HP.out i pi oi hpi hoi S w2 _ _ (IsB.keep (S':=S) (fun k hk=>⟨hk,(hg2.block k (Nat.lt_of_lt_of_le (HS.out k hk) HJ.out.grow.size) (by simp)).trans (hblk k hk)⟩) _ _ _ hIi) (fun k hk=>Nat.lt_of_lt_of_le (Nat.lt_of_lt_of_le (HS.out k hk) HJ.out.grow.size) hg2.size);obtain⟨Hpi,Hki,Hcall⟩:=xh3 hpi hki hcall;have hkl:=Hkk.out ki (List.mem_of_getElem? hki);have Hkl:=xhd hkl
   have hkn:ki∉keys.take i:=by
    intro hm;obtain⟨j,hj⟩:=List.mem_iff_getElem?.1 hm;have hji:j<i:=by have:=(List.getElem?_eq_some_iff.1 hj).1;simp at this;omega
    rw[List.getElem?_take,if_pos hji]at hj;exact nodup_first Hnd.out hki j hji hj
   have Hkn:=xhd hkn;clear hcall hcc hIi hci hpi hoi hblk hki hkl hkn hkc1 hSb hSb1;unfold obV at Hcall;generalize oi.k=k1 at *;generalize oi.i=k2 at *;generalize oi.g=k3 at *;generalize oi.r=k4 at *;generalize bs oi.t=k5 at *;generalize oi.keys.length=k6 at *;generalize oi.kids.length=k7 at *;go_wp2_with fail
   refine(Hcall.out wr (xgr _ _)).mono ?_;rintro e w2⟨v,S3,rfl,hO,hS3,hg2⟩;have hD2:=HJ.out.dict.keep (w':=w2) (hg2.block _ HJ.out.dict.lt (by simp));obtain⟨h1,h2,D,hown,h3,h4⟩:=hD2;have hT:=IsMap.of hown;have hkey:=key9 ki (by unfold maxLen;have:=Hkl.out;omega);obtain⟨w3,hm,hown3,hg3⟩:=hown.update keyed9 Tryz.underlying81 (key:=.string (bs ki)) (val:=v) (by unfold maxLen;have:=List.length_take_le i keys;omega) hkey rfl;have hd3:=DictAt.put h1 h2 hT h3 h4 Hkn.out hown3;obtain⟨HD3,Hg2,Hg3,HO,HS3⟩:=xh5 hd3 hg2 hg3 hO hS3;clear h1 h2 h3 h4 hT hd3 hown3 hg2 hg3 hO hS3 hown e0 e1 e2 e3 e4 e5 e6 ek hkey;go_wp2_with fail
   go_roundg (N-(i+1))
   case measure=>rw[Hg.out];omega
   case rel =>
    have hJ:=HJ.out;have hs2:=Hg2.out.size;have hs3:=Hg3.out.size;have hw:=hJ.grow.size;have hdl:=hJ.dict.lt;refine⟨i+1,cells++[v],fun k=>S2 k∨S3 k,by simp,rfl,by omega,⟨?_,?_,?_,?_⟩⟩
    ·rw[List.take_add_one,Hki.out];exact HD3.out
    ·rw[List.take_add_one,Hpi.out]
     refine ObjOs.append (ObjOs.one (ObjO.keep (fun k hk=>⟨.inr hk,?_⟩) _ _ HO.out)) _ _ (ObjOs.keep (fun k hk=>⟨.inl hk,?_⟩) _ _ hJ.objs)
     ·have h1:=HS3.out k hk
      exact Hg3.out.block k h1.2 (fun e=>by injection e with e;omega)
     ·have h1:=hJ.bnd k hk
      exact(Hg3.out.block k (by omega) (fun e=>by injection e with e;omega)).trans (Hg2.out.block k h1.2 (by simp))
    ·intro k hk
     rcases hk with hk|hk
     ·have h1:=hJ.bnd k hk;omega
     ·have h1:=HS3.out k hk;omega
    ·exact gr_noneThen (hJ.grow.trans Hg2.out) Hg3.out (fun j hj=>by injection hj with hj;omega)
  ·obtain rfl:i=N:=by omega
   have hnm:¬(i:Int)<i:=by omega
   go_wp2_with fail
   go_ret2;have hJ:=HJ.out;have hO:=hJ.objs;have hD:=hJ.dict;rw[List.take_of_length_le (by rw[Hlen.out];exact Nat.le_refl _)]at hO;rw[List.take_of_length_le (by rw[Hkv.out];exact Nat.le_refl _)]at hD;exact⟨cells,S2,rfl,hD,hO,hJ.bnd,hJ.grow⟩
open Go.Lib
theorem join_flat (L:List By):Lib.join L []=L.flatten:=by
 unfold Lib.join
 induction L with
 | nil=>rfl
 | cons a L ih =>
  cases L with
  | nil=>simp[List.intercalate]
  | cons b L =>
   rw[List.flatten_cons,←ih];simp[List.intercalate]
theorem bs_data (l:By):(bs l).data.toList=l:=by simp[bs]
theorem join_any (L:List By)(base:Nat)(so:Option Addr)(sn sc:Nat)(w:World)(hrow:w.ownsRow base 9 1 (.slice so sn sc) L.length (L.map encStr))(hl:L.length≤10000000)(hf:L.flatten.length≤100000000000) :
  Calls Tryz.prog 289 #[.slice so sn sc,.string ⟨#[]⟩] w fun e w'=>e=.returned (.string (bs L.flatten))∧w.grownBy w' none:=by
 rcases hrow.2 with⟨hnil,h0⟩|⟨g,cap,cur,he,hbase,hb,h1,h2,h3,h4⟩
 ·injection hnil with e1 e2 e3
  subst e1;subst e2;subst e3
  obtain rfl:L=[]:=List.eq_nil_of_length_eq_zero h0;refine(Tryz.strings_Join_none none 0 _ w).mono ?_;rintro e w'⟨rfl,rfl⟩;exact⟨rfl,xgr _ _⟩
 ·injection he with e1 e2 e3
  subst e1;subst e2;subst e3
  have hcells:∀(j:Nat) x,(L.map bs)[j]?=some x→w.cell? ⟨g,0+j,none⟩=some (.string x):=by
   intro j x hj;rw[List.getElem?_map]at hj
   have:=World.ownsRow.cells hrow (g:=g) rfl j (.string x) (by
    rw[List.getElem?_map]
    cases hq:L[j]? with
    | none=>rw[hq]at hj;simp at hj
    | some y=>rw[hq]at hj;simp at hj;subst hj;rfl)
   have e:(⟨g,0,none⟩:Addr).add j=⟨g,0+j,none⟩:=by unfold Addr.add;split<;>simp_all
   rw[e]at this;exact this
  have hm:(L.map bs).map (·.data.toList)=L:=by
   rw[List.map_map]
   conv=>rhs;rw[←List.map_id L]
   exact List.map_congr_left fun a _=>bs_data a
  have hj:=Tryz.strings_Join g 0 sc (L.map bs) ⟨#[]⟩ w hcells (xgl hb) (by simp;omega) (by simp;omega) (by
   rw[hm]
   show (Lib.join L []).length≤_
   rw[join_flat];omega)
  rw[List.length_map,hm]at hj;refine hj.mono ?_;rintro e w'⟨rfl,hb⟩;refine⟨?_,hb.os,hb.tape,hb.output,hb.size,fun k hk _=>hb.block k hk⟩
  show _=Ending.returned (.string (bs L.flatten))
  rw[←join_flat];rfl
def tyP:PO→Nat
 | .null=>0 | .bool _=>66 | .int _=>67 | .real _=>68 | .lit _=>69 | .hexl _=>70 | .name _=>71 | .ref _ _=>73 | .arr _=>77 | .dict _ _=>81
def fnP:PO→Nat
 | .null=>0 | .bool _=>260 | .int _=>265 | .real _=>268 | .lit _=>271 | .hexl _=>274 | .name _=>277 | .ref _ _=>285 | .arr _=>287 | .dict _ _=>288
def PrC (ff:Nat→By)(R:Nat→Prop)(W0:World)(p:PO):Prop:=∀(S:Nat→Prop) (w:World) (v:Value),ObjO S w p v→(∀k,S k→k<w.heap.size)→Env W0 w→okR ff R p→srP p→(prP ff p).length≤1000000000→p≠.null →
 ∃u,v=.iface (tyP p) u∧Calls Tryz.prog (fnP p) #[u] w fun e w'=>e=.returned (.string (bs (prP ff p)))∧w.grownBy w' none
theorem prc_leaf (ff:Nat→By)(R:Nat→Prop)(W0:World)(hT:TabIs Tryz.prog W0 "internal/strconv.uint64pow10" .u64 pow10Tab)(hR:∀x,R x→FfC W0 x (ff x))(p:PO)(h1:∀ks,p≠.arr ks)(h2:∀ks vs,p≠.dict ks vs):PrC ff R W0 p:=by
 intro S w v hO hS hE hok hsr hl hnn
 cases p with
 | null=>exact absurd rfl hnn
 | bool b =>
  simp only[ObjO]at hO;exact⟨_,hO,(pbool b w).mono fun e w' h=>⟨by rw[h.1];rfl,by rw[h.2];exact xgr _ _⟩⟩
 | int n =>
  simp only[ObjO]at hO;simp only[okR]at hok;exact⟨_,hO,pint n (by omega) (by omega) W0 w hT hE⟩
 | real x =>
  simp only[ObjO]at hO;simp only[okR]at hok;exact⟨_,hO,preal x (ff x) W0 w (hR x hok.2) hE⟩
 | lit s =>
  simp only[ObjO]at hO;exact⟨_,hO.2,(spdf_any s (by omega) w).mono fun e w' h=>⟨by rw[h.1];rfl,by rw[h.2];exact xgr _ _⟩⟩
 | hexl s =>
  simp only[ObjO]at hO;exact⟨_,hO.2,(hpdf_any s (by omega) w).mono fun e w' h=>⟨by rw[h.1];rfl,by rw[h.2];exact xgr _ _⟩⟩
 | name s =>
  simp only[ObjO]at hO;exact⟨_,hO.2,pname s (by omega) w⟩
 | ref n g =>
  simp only[ObjO]at hO;simp only[okR]at hok;exact⟨_,hO,pref n g (by omega) (by omega) (by omega) (by omega) W0 w hT hE⟩
 | arr ks=>exact absurd rfl (h1 ks)
 | dict ks vs=>exact absurd rfl (h2 ks vs)
end Go.Proofs.YtfkecmlmnhbmoaaGreatDoor
