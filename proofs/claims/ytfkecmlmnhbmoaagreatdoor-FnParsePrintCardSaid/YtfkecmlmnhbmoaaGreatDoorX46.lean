/- Parts K10 L4 R2 D2 D2b U4 D13 D14 D15 D16 D6 M1. -/
import Derived.ProofKit
import Derived.OpenVars
import Derived.Deep.DeepHandedRow
import Derived.Test.YtfkecmlmnhbmoaaGreatDoorX43
import Derived.Test.YtfkecmlmnhbmoaaGreatDoorX45
set_option linter.unusedVariables false
set_option linter.unusedSimpArgs false
set_option maxRecDepth 100000
set_option maxHeartbeats 40000000
namespace Go.Proofs.YtfkecmlmnhbmoaaGreatDoor
open Go Go.RowKit Go.Lib Go.ChangeShapes Go.WideShapes Go.ChangeAt Go.ChangeMaps
theorem b3O {w w':World}(h:w.grownBy w' Option.none):Below w.heap.size w w':=⟨h.os,h.tape,h.output,h.size,fun k hk=>h.block k hk (by simp)⟩
section
variable {H:Type} {enc:TypeId×Value→H} {P:Program}
theorem a4W {w:World}{sp:Nat→Bool} : ∀ {ns:List String} {gs:List (DataW H)} {ps:List MemPlace},DataW.TrodVars enc P w sp ns gs ps→gs.length=ns.length
 | [],[],_,_=>rfl
 | [],_::_,_,h=>h.elim
 | _::_,[],_,h=>h.elim
 | n::ns,d::ds,ps,h=>by
  obtain⟨_,_,_,_,_,q,_,_,_,_,hs,_⟩:=h;simp[a4W hs]
theorem a4w (hl:laidOutB P=true){W W':World}(hb:Below W.heap.size W W')(sp:Nat→Bool) :
  ∀ {ns:List String} {gs:List (DataW H)} {ps:List MemPlace},varsRowed P ns=true→(∀x∈ps,sp x.block=true)→DataW.TrodVars enc P W (fun _=>true) ns gs ps→DataW.TrodVars enc P W' sp ns gs ps
 | [],[],_,_,_,h=>h
 | [],_::_,_,_,_,h=>h.elim
 | _::_,[],_,_,_,h=>h.elim
 | n :: ns, d :: ds, ps, hv, hsp, h => by
  have hlt:=h.lt;obtain⟨g,t,cs,fuel,p,q,h1,h2,h3,h4,hs,e⟩:=h;simp only[varsRowed,List.all_cons,Bool.and_eq_true]at hv
  have ht:P.readableRec t=true∧t<P.types.size:=by
   have:=hv.1;rw[h1]at this
   cases hg:P.globals[g]? with
   | none=>rw[hg]at h2;cases h2
   | some gl =>
    rw[hg]at h2;obtain rfl:gl.type=t:=Option.some.inj h2;simpa[hg] using this
  have hp:∀x∈p,x.block<W.heap.size:=fun x hx=>hlt x (by rw[e];simp[hx]);have hp2:∀x∈p,sp x.block=true:=fun x hx=>hsp x (by rw[e];simp[hx]);have hq2:∀x∈q,sp x.block=true:=fun x hx=>hsp x (by rw[e];simp[hx])
  have h3':W'.var? P n=some cs:=by
   unfold World.var? at h3⊢;rw[h1]at h3⊢;simp only[Option.bind_some]at h3⊢
   have hg:g<W.heap.size:=by
    cases hh:W.heap[g]? with
    | none=>rw[hh]at h3;cases h3
    | some o=>exact(xgl hh)
   rw[hb.block g hg];exact h3
  exact⟨g,t,cs,fuel,p,q,h1,h2,h3',DataW.trod_stays (kids_book hl ht.1) (book_sized ht.1) (fun h=>by cases h) ⟨ht.2,book_self t⟩ h4 (fun x hx=>hb.same (hp x hx)) hp2,
   a4w hl hb sp (by simpa[varsRowed] using hv.2) hq2 hs,e⟩
theorem b2y {f:Func}{s:ChangeSpec}{apart fresh handsOn again:Bool}{W W':World}{args:Array Value}{v:Value}{ds gs:List (DataW H)}{before pa pv:List MemPlace}(hb:Below W.heap.size W W')
  (hW:DataW.Whole enc P f.params.toList s.vars apart W args.toList ds gs before)
  (hres:∀(b:Nat) (sp:Nat→Bool) (hd:Bool),DataW.TrodAll enc P W' b sp hd f.resultTypes.toList (v.resultList f.resultTypes.size) (s.fn H (ds++gs)).results [])
  (hargs:∀sp:Nat→Bool,(∀p∈before,sp p.block=true)→DataW.TrodAll enc P W' 0 sp true f.params.toList args.toList (s.fn H (ds++gs)).args pa)
  (hvars:∀sp:Nat→Bool,(∀p∈before,sp p.block=true)→DataW.TrodVars enc P W' sp s.vars (s.fn H (ds++gs)).vars pv)
  (hps:before=pa++pv)
  (hok:∀(j:Nat) (t:TypeId) (r:Value),f.resultTypes[j]?=some t→(v.resultList f.resultTypes.size)[j]?=some r→Value.okWide P W' .any 0 t r) :
  s.post enc P f apart fresh handsOn again W args v W':=by
 have hold:∀p∈before,(fun b=>decide (b<W.heap.size)) p.block=true:=fun p hp=>by simpa using hW.lt p hp
 refine⟨ds,gs,before,[],pa,pv,hW,hres _ _ _,hargs _ hold,hvars _ hold,hb.frame _,fun _=>?_⟩;have hlt:=hW.lt;obtain⟨_,_,_,_,_,hz,hn⟩:=hW;refine⟨hok,_,_,([]++pa)++pv,⟨[]++pa,pv,trodAll_append (hargs _ (fun _ _=>rfl)) (hres _ _ _),hvars _ (fun _ _=>rfl),rfl,?_,?_⟩,?_⟩
 ·intro b off hp
  have hp':MemPlace.cell b off∈before:=by rw[hps];simpa using hp
  have h1:=hz b off hp';have h2:=hb.block b (hlt _ hp');unfold World.frozen? at h1⊢;simp only[h2];exact h1
 ·intro ha
  have:=hn ha;rw[hps]at this;simpa using this
 ·intro p hp _
  rw[hps];simpa using hp
end
theorem b1M {W:World}(h:VarReads Tryz.prog W "encoding/hex.ErrLength" Rows.laid_encoding_hex_ErrLength):∃ev,W.cell? ⟨23,0,Option.none⟩=some ev:=by
 obtain⟨g,t,cs,fuel,p,hg,hty,hvar,hd⟩:=h;obtain rfl:=Option.some.inj ((show Tryz.prog.globalNamed "encoding/hex.ErrLength" = some 23 by kernel_rfl).symm.trans hg);obtain rfl:=Option.some.inj ((show (Tryz.prog.globals[23]?).map (·.type)=some 92 by kernel_rfl).symm.trans hty);obtain⟨f,u,v,hcs,_⟩:=iface_of_trod Tryz.underlying92 hd;exact⟨.iface u v,by rw[World.var?_cell hg hvar 0,←Array.getElem?_toList,hcs];rfl⟩
theorem a8E {W:World}(h:laidMet Tryz.prog Rows.fnParseRow.laid W):a4P W∧∃a b ca cb,b0k W a b ca cb:=by
 have hm:∀(i:Nat) n d,Rows.fnParseRow.laid[i]?=some (n,d)→VarReads Tryz.prog W n d:=fun i n d hi=>Go.Lib.laidMet.reads h (List.mem_of_getElem? hi);refine⟨b4b (hm 4 _ _ rfl) (hm 3 _ _ rfl) (hm 5 _ _ rfl) (hm 6 _ _ rfl) (hm 25 _ _ rfl) (hm 26 _ _ rfl),?_⟩;obtain⟨a,b,ca,cb,hab⟩:=b6B (l1:=Rows.fnParseRow.laid.take 10) (l2:=Rows.fnParseRow.laid.drop 12) h;exact⟨a,b,ca,cb,{ init:=⟨⟨_,_,hab.syn⟩,⟨_,_,hab.ran⟩⟩,tabs:=b7W (hm 27 _ _ rfl) (hm 9 _ _ rfl),hexErr:=b1M (hm 12 _ _ rfl),ab:=hab }⟩
end Go.Proofs.YtfkecmlmnhbmoaaGreatDoor
namespace Go.Proofs.YtfkecmlmnhbmoaaGreatDoor
open Go Go.RowKit Go.Lib
section
variable {H:Type} {enc:TypeId×Value→H} {W:World} {sp:Nat→Bool} {hd:Bool}
end
end Go.Proofs.YtfkecmlmnhbmoaaGreatDoor
namespace Go.Proofs.YtfkecmlmnhbmoaaGreatDoor
open Go Go.RowKit Go.Maps
theorem b9r (ps:List PO)(kids:List OB)(hlen:ps.length=kids.length)(hl2:kids.length≤20000)(hP:∀(i:Nat) p o,ps[i]?=some p→kids[i]?=some o→ObC p o)(i g:Int)(r:Nat)(z:ByteArray)(ko vo:Option Addr)(kn kc vc:Nat)(S:Nat→Prop)(w:World)(hV:a7z S w vo kids)(hvc:kids.length≤vc)(hS:∀k,S k→k<w.heap.size) :
  Calls Tryz.prog 21 #[.agg #[.int .i64 7,.int .i64 i,.int .i64 g,.float .f64 r,.string z,.slice ko kn kc,.slice vo kids.length vc]] w fun e w'=>a9n (.arr ps) w w' e:=by
 have hcall:=fun (w1:World) (hg:w.grownBy w1 none)=>b4w ps kids hlen hl2 hP vo vc S w1 (hV.keep (fun k hk=>⟨hk,hg.block k (hS k hk) (by simp)⟩)) hvc (fun k hk=>Nat.lt_of_lt_of_le (hS k hk) hg.size);have Hcall:=xhd hcall;have Hl:=xhd (show ps.length≤1000000 by omega);clear hcall hP hV hS;obtain⟨vn,hvn⟩:∃n,n=kids.length:=⟨_,rfl⟩;rw[←hvn]at Hcall⊢;clear hvn hlen hl2 hvc;have Hg0:=xhd (a0a (xgr w none) (.cells #[.int .i64 7,.int .i64 i,.int .i64 g,.float .f64 r,.string z,.slice ko kn kc,.slice vo vn vc] 26));go_enter Tryz.func21,Tryz.ntmps21;go_wp2_with fail
 refine(Hcall.out _ Hg0.out).mono ?_;rintro e w2⟨sl,cells,S',rfl,hsl,hO,hbd,hg2⟩;have H2:=xhd (And.intro hsl (And.intro hO (And.intro hbd hg2)));have Hgs:=xhd hg2.size;clear hsl hO hbd hg2;go_wp2_with fail
 go_ret2;obtain⟨hsl,hO,hbd,hg2⟩:=H2.out;refine⟨_,S',rfl,?_,fun k hk=>?_,Hg0.out.trans hg2⟩
 ·simp only[ObjO]
  exact⟨Hl.out,sl,cells,rfl,hsl,hO⟩
 ·have:=hbd k hk
  simp at this;omega
theorem b7k (keys:List By)(ps:List PO)(kids:List OB)(hkv:keys.length=kids.length)(hnd:keys.Nodup)(hkk:∀k∈keys,k.length≤1000000)(hlen:ps.length=kids.length)(hl2:kids.length≤20000)(hP:∀(i:Nat) p o,ps[i]?=some p→kids[i]?=some o→ObC p o)(i g:Int)(r:Nat)(z:ByteArray)(ko vo:Option Addr)(kc vc:Nat)(S:Nat→Prop)(w:World)(hK:b0l S w ko keys)(hV:a7z S w vo kids)(hkc:keys.length≤kc)(hvc:kids.length≤vc)(hS:∀k,S k→k<w.heap.size) :
  Calls Tryz.prog 21 #[.agg #[.int .i64 8,.int .i64 i,.int .i64 g,.float .f64 r,.string z,.slice ko keys.length kc,.slice vo kids.length vc]] w fun e w'=>a9n (.dict keys ps) w w' e:=by
 have hcall:=fun (w1:World) (hg:w.grownBy w1 none)=>b3W keys ps kids hkv hnd hkk hlen hl2 hP ko vo kc vc S w1 (hK.keep (fun k hk=>⟨hk,hg.block k (hS k hk) (by simp)⟩)) (hV.keep (fun k hk=>⟨hk,hg.block k (hS k hk) (by simp)⟩)) hkc hvc (fun k hk=>Nat.lt_of_lt_of_le (hS k hk) hg.size);have Hcall:=xhd hcall;have Hk:=xhd (show a3O keys from⟨by omega,hkk⟩);clear hcall hP hV hS hK hkk hnd;obtain⟨vn,hvn⟩:∃n,n=kids.length:=⟨_,rfl⟩;obtain⟨kn,hkn⟩:∃n,n=keys.length:=⟨_,rfl⟩;rw[←hvn,←hkn]at Hcall⊢;clear hvn hlen hl2 hvc hkc hkn hkv;have Hg0:=xhd (a0a (xgr w none) (.cells #[.int .i64 8,.int .i64 i,.int .i64 g,.float .f64 r,.string z,.slice ko kn kc,.slice vo vn vc] 26));go_enter Tryz.func21,Tryz.ntmps21;go_wp2_with fail
 refine(Hcall.out _ Hg0.out).mono ?_;rintro e w2⟨cells,S',rfl,hD,hO,hbd,hg2⟩;have H2:=xhd (And.intro hD (And.intro hO (And.intro hbd hg2)));clear hD hO hbd hg2;go_wp2_with fail
 go_ret2;obtain⟨hD,hO,hbd,hg2⟩:=H2.out;rw[show ∀o,(w.alloc o).heap.size=w.heap.size+1 from fun o=>by simp]at hD;have hdl:=hD.lt;refine⟨_,fun k=>S' k∨k=w.heap.size+1,rfl,?_,fun k hk=>?_,Hg0.out.trans hg2⟩
 ·simp only[ObjO]
  refine⟨Hk.out,_,cells,rfl,.inr (by simp),hD,a0J.keep (fun k hk=>⟨.inl hk,rfl⟩) _ _ hO⟩
 ·rcases hk with hk|hk
  ·have:=hbd k hk
   simp at this;omega
  ·omega
theorem a2Y {p:PO}{w w':World}{v:Value}{e:Ending}(h:ObL w w' v e)(hO:∀S,ObjO S w' p v):a9n p w w' e:=⟨v,fun _=>False,h.1,hO _,fun k hk=>hk.elim,h.2⟩
theorem a7h {ff:Nat→By}{R:Nat→Prop} : ∀ {ps:List PO},okRs ff R ps→∀(i:Nat) p,ps[i]?=some p→okR ff R p
 | [],_,i,p,h=>by simp at h
 | q::ps,hs,i,p,h=>by
  simp only[okRs]at hs
  cases i with
  | zero=>simp at h;subst h;exact hs.1
  | succ i=>exact a7h hs.2 i p (by simpa using h)
theorem b9q (ff:Nat→By)(R:Nat→Prop):∀(n:Nat) (p:PO) (o:OB),lvB o≤n→Img p o→okR ff R p→fwB o≤20000→ObC p o:=by
 intro n
 induction n with
 | zero=>intro p o hl;cases o;simp only[lvB]at hl;omega
 | succ n ih =>
  intro p o hlv himg hok hfw S w ks vs hI hS;obtain⟨ko,kc,vo,vc,rfl,rfl,hm1,hm2,hm3,hm4,hK,hV⟩:=hI.view;have htl:=b6H hfw;have hvl:=b6G hfw;have hkk:∀k∈o.keys,k.length≤1000000:=fun k hk=>by have:=b8L hfw hk;omega
  have hkid:∀q∈o.kids,lvB q≤n∧fwB q≤20000:=fun q hq=>⟨by have:=b8U hq;omega,by have:=b8M hq;omega⟩;obtain⟨k,i,g,r,t,keys,kids⟩:=o;simp only[OB.keys,OB.kids,OB.t]at *;unfold obV;simp only[OB.k,OB.i,OB.g,OB.r,OB.t,OB.keys,OB.kids];have ht:t.length≤319999:=by omega
  cases p with
  | null =>
   simp only[Img,OB.k]at himg;subst himg;exact(b7n i g r (bs t) ko vo _ kc _ vc w).mono fun e w' h=>a2Y h (fun S=>by simp only[ObjO])
  | bool b =>
   simp only[Img,OB.k,OB.i]at himg;obtain⟨rfl,rfl⟩:=himg
   cases b
   ·exact(b2k g r (bs t) ko vo _ kc _ vc w).mono fun e w' h=>a2Y h (fun S=>by simp only[ObjO])
   ·exact(b4u g r (bs t) ko vo _ kc _ vc w).mono fun e w' h=>a2Y h (fun S=>by simp only[ObjO])
  | int m =>
   simp only[Img,OB.k,OB.i]at himg;obtain⟨rfl,rfl⟩:=himg;exact(b9s i g r (bs t) ko vo _ kc _ vc w).mono fun e w' h=>a2Y h (fun S=>by simp only[ObjO])
  | real x =>
   simp only[Img,OB.k,OB.r]at himg;obtain⟨rfl,rfl⟩:=himg;exact(b7o i g r (bs t) ko vo _ kc _ vc w).mono fun e w' h=>a2Y h (fun S=>by simp only[ObjO])
  | lit s =>
   simp only[Img,OB.k,OB.t]at himg;obtain⟨rfl,rfl⟩:=himg;exact(b9t i g r (bs t) ko vo _ kc _ vc w).mono fun e w' h=>a2Y h (fun S=>by simp only[ObjO];exact⟨ht,trivial⟩)
  | hexl s =>
   simp only[Img,OB.k,OB.t]at himg;obtain⟨rfl,rfl⟩:=himg;exact(b7l i g r (bs t) ko vo _ kc _ vc w).mono fun e w' h=>a2Y h (fun S=>by simp only[ObjO];exact⟨ht,trivial⟩)
  | name s =>
   simp only[Img,OB.k,OB.t]at himg;obtain⟨rfl,rfl⟩:=himg;exact(b7m i g r (bs t) ko vo _ kc _ vc w).mono fun e w' h=>a2Y h (fun S=>by simp only[ObjO];exact⟨ht,trivial⟩)
  | ref m q =>
   simp only[Img,OB.k,OB.i,OB.g]at himg;obtain⟨rfl,rfl,rfl⟩:=himg;exact(b9u i g r (bs t) ko vo _ kc _ vc w).mono fun e w' h=>a2Y h (fun S=>by simp only[ObjO])
  | arr ps =>
   simp only[Img,OB.k,OB.kids]at himg;obtain⟨rfl,himg⟩:=himg;simp only[okR]at hok;refine b9r ps kids (Imgs.len himg) (by omega) (fun j p o hp ho=>?_) i g r (bs t) ko vo _ kc vc S w hV hm4 hS;obtain⟨p',hp',hi'⟩:=Imgs.get himg j o ho;rw[hp]at hp';injection hp' with hp';subst hp'
   have hm:=hkid o (List.mem_of_getElem? ho);exact ih p o hm.1 hi' (a7h hok j p hp) hm.2
  | dict pkeys ps =>
   simp only[Img,OB.k,OB.kids,OB.keys]at himg;obtain⟨rfl,rfl,himg⟩:=himg;simp only[okR]at hok;have hpl:=Imgs.len himg;refine b7k keys ps kids (by omega) hok.2.1 hkk hpl (by omega) (fun j p o hp ho=>?_) i g r (bs t) ko vo kc vc S w hK hV hm3 hm4 hS;obtain⟨p',hp',hi'⟩:=Imgs.get himg j o ho;rw[hp]at hp';injection hp' with hp';subst hp'
   have hm:=hkid o (List.mem_of_getElem? ho);exact ih p o hm.1 hi' (a7h hok.2.2.2 j p hp) hm.2
def TwR (pf:By→Nat)(ff:Nat→By)(y:Nat):Prop:=a1q (ff y)∧R12 pf ff y∧y%9223372036854775808<4816244402031689728
def a6Q (pf:By→Nat)(ff:Nat→By)(x:PV)(w w':World)(e:Ending):Prop:=∃b:Bool,e=.returned (.bool b)∧(b=true→a1u (TwR pf ff) x)∧w.grownBy w' none
theorem a4V {P:Nat→Prop} : ∀ {l:List PV} {i:Nat} {p:PV},l[i]?=some p→a1S P (l.take i)→a1u P p→a1S P (l.take (i+1))
 | [],i,p,h,_,_=>by simp at h
 | y::ys,0,p,h,_,hp=>by simp at h;subst h;simp only[List.take_succ_cons,List.take_zero,a1S];exact⟨hp,trivial⟩
 | y::ys,i+1,p,h,h1,hp=>by
  simp only[List.take_succ_cons,a1S]at h1⊢;exact⟨h1.1,a4V (by simpa using h) h1.2 hp⟩
theorem a6G {P:Nat→Prop}{x:PV}(h:∀y,x≠.real y):a1u P x↔a1S P (a2L x):=by
 cases x<;>simp[a1u,a2L,a1S]<;>first|exact absurd rfl (h _)|rfl
theorem b1T {x:PV}(h:∀y,x≠.real y):(a0z x==3)=false:=by
 cases x<;>first|rfl|exact absurd rfl (h _)
theorem b5p (pf:By→Nat)(ff:Nat→By)(W0:World)(hpf:PFC pf W0)(hff:b6g ff W0):∀(n:Nat),n≤1000000→∀(x:PV) (S:Nat→Prop) (w:World) (ks vs:Value),lvV x≤n→a1u (fun y=>y<18446744073709551616) x→IsV S w x ks vs→(∀k,S k→k<w.heap.size)→Env W0 w →
  Calls Tryz.prog 15 #[a0C x ks vs] w fun e w'=>a6Q pf ff x w w' e:=by
 intro n
 induction n with
 | zero=>intro _ x S w ks vs hl;have:=a8K x;omega
 | succ n ih =>
  intro hn x S w ks vs hl hre hI hS hE;replace ih:=ih (by omega);have hlk:=a8L x;obtain⟨ko,kc,vo,vc,rfl,rfl,-,hmx,-,hv⟩:=hI.view;unfold a0C
  by_cases hxr:∃y,x=.real y
  ·obtain⟨y,rfl⟩:=hxr
   simp only[a1u]at hre;have htw:=fun (w2:World) (hg2:w.grownBy w2 none)=>b0V pf ff W0 hpf hff y hre w2 (hE.grown0 hg2);have Htw:=xhd htw;clear htw hpf hff ih hl hlk hv hmx hI hS hE hre;simp only[a0z,a1d,a1c,a0H,a0I,a3X,a2L,List.length_nil];have hbox:=heap_alloc_new w (.cells #[.int .i64 3,.int .i64 0,.int .i64 0,.float .f64 y,.string ⟨#[]⟩,.slice ko 0 kc,.slice vo 0 vc] 30);have hg0:w.grownBy (w.alloc (.cells #[.int .i64 3,.int .i64 0,.int .i64 0,.float .f64 y,.string ⟨#[]⟩,.slice ko 0 kc,.slice vo 0 vc] 30)) none:=a0a (xgr w none) _;obtain⟨W,hW⟩:∃W,W=w.alloc (.cells #[.int .i64 3,.int .i64 0,.int .i64 0,.float .f64 y,.string ⟨#[]⟩,.slice ko 0 kc,.slice vo 0 vc] 30):=⟨_,rfl⟩;rw[←hW]at hbox hg0;obtain⟨Hbox,Hg0⟩:=xh2 hbox hg0;obtain⟨x0,x1,x2,x3,x4,x5,x6,xf⟩:=a0n hbox;clear hbox hg0;go_enter Tryz.func15,Tryz.ntmps15
   go_upto_region 1 with (fail)
   rw[←hW];clear hW;go_wp2_with fail
   refine(Htw.out W Hg0.out).mono ?_;rintro e w2⟨b,rfl,hg2,hb⟩;have Hb:=xhd hb;have Hg2:=xhd (Hg0.out.trans hg2);have q0:=(hg2.block _ (xgl Hbox.out) (by simp)).trans Hbox.out;clear hg2 x0 x1 x2 x3 x4 x5 x6 xf hb;obtain⟨x0,x1,x2,x3,x4,x5,x6,xf⟩:=a0n q0;clear q0
   cases b with
   | false =>
    go_wp2_with fail
    go_ret;exact⟨false,rfl,(fun h=>by cases h),Hg2.out⟩
   | true =>
    go_wp2_with fail
    go_loopg [17] 0 (fun g t17 wr=>t17=.int .i64 0∧wr=w2)
    case atStart=>exact⟨rfl,rfl⟩
    case round =>
     obtain⟨rfl,rfl⟩:=hrel;go_wp2_with fail
     go_ret;exact⟨true,rfl,fun _=>by simp only[a1u];exact Hb.out (by trivial),Hg2.out⟩
  ·have hxn:∀y,x≠.real y:=fun y e=>hxr ⟨y,e⟩
   have hk3:=b1T hxn;have hrk:=a6G (P:=TwR pf ff) hxn;rw[a6G hxn]at hre;obtain⟨kids,hk⟩:∃l,l=a2L x:=⟨_,rfl⟩;rw[←hk]at hv hmx hlk hre hrk⊢;obtain⟨N,hN⟩:∃N,N=kids.length:=⟨_,rfl⟩;rw[←hN]at hv hmx⊢;have Hrk:=xhd hrk;clear hrk hxr hxn;generalize a0z x=k1 at hk3⊢;generalize a1d x=k2;generalize a1c x=k3;generalize a0H x=k4;generalize (⟨(a0I x).toArray⟩:ByteArray)=k5;generalize (a3X x).length=kn;have hM:N≤9223372036854775807:=by unfold maxLen at hmx;omega
   have hall:∀p∈kids,lvV p≤n∧a1u (fun y=>y<18446744073709551616) p:=fun p hp=>⟨by have:=a8J hp;omega,a3c hre p hp⟩;obtain⟨Hv,HN,HS,Hall,Hih,HE⟩:=xh6 hv hN hS hall ih hE;have hM':=hM;clear hv hN hS hmx hk hI hall ih hlk hl hre hpf hff hE hn hM';have hbox:=heap_alloc_new w (.cells #[.int .i64 k1,.int .i64 k2,.int .i64 k3,.float .f64 k4,.string k5,.slice ko kn kc,.slice vo N vc] 30);have hg0:w.grownBy (w.alloc (.cells #[.int .i64 k1,.int .i64 k2,.int .i64 k3,.float .f64 k4,.string k5,.slice ko kn kc,.slice vo N vc] 30)) none:=a0a (xgr w none) _;obtain⟨W,hW⟩:∃W,W=w.alloc (.cells #[.int .i64 k1,.int .i64 k2,.int .i64 k3,.float .f64 k4,.string k5,.slice ko kn kc,.slice vo N vc] 30):=⟨_,rfl⟩;rw[←hW]at hbox hg0;have Hg0:=xhd hg0;obtain⟨x0,x1,x2,x3,x4,x5,x6,xf⟩:=a0n hbox;clear hbox hg0;go_enter Tryz.func15,Tryz.ntmps15
   go_upto_region 1 with (fail)
   rw[←hW];clear hW;go_wp2_with fail
   clear x0 x1 x2 x3 x4 x5 x6 xf hk3
   go_loopg [17] N (fun g t17 wr=>∃i:Nat,t17=.int .i64 (i:Nat)∧a1S (TwR pf ff) (kids.take i)∧g=N-i∧i≤N∧w.grownBy wr none)
   case atStart=>exact⟨0,rfl,by simp[a1S],rfl,Nat.zero_le _,Hg0.out⟩
   case round =>
    obtain⟨i,rfl,hrl,hg,hi,hgw⟩:=hrel;obtain⟨Hgw,Hg,Hrl⟩:=xh3 hgw hg hrl;clear hgw hg hrl
    by_cases hiN:i<N
    ·rcases Hv.out with h0|⟨b0,i0,rfl,hSb,hcells⟩
     ·omega
     obtain⟨p,hp⟩:∃p,kids[i]?=some p:=⟨_,List.getElem?_eq_getElem (by rw[←HN.out];exact hiN)⟩;obtain⟨ksi,vsi,hIi,hci⟩:=hcells i p hp;obtain⟨⟨kso,ksn,ksc,rfl⟩,⟨vso,vsn,vsc,rfl⟩⟩:=hIi.slices;have hblk:=Hgw.out.block b0 (HS.out b0 hSb) (by simp);have hcce:∀m u,(c7 p _ _)[m]?=some u→World.cell? wr ⟨b0,i0+i*7+m,none⟩=some u:=fun m u hm=>(World.cell?_of_block hblk).trans (hci m u hm);have e0:World.cell? wr ⟨b0,i0+i*7,none⟩=_:=hcce 0 _ rfl;have e1:=hcce 1 _ rfl;have e2:=hcce 2 _ rfl;have e3:=hcce 3 _ rfl;have e4:=hcce 4 _ rfl;have e5:=hcce 5 _ rfl;have e6:=hcce 6 _ rfl;clear hcce;have hcall:=fun (w2:World) (hg2:wr.grownBy w2 none)=>Hih.out p S w2 _ _ (Hall.out p (List.mem_of_getElem? hp)).1 (Hall.out p (List.mem_of_getElem? hp)).2 (IsV.keep (S':=S) (fun k hk=>⟨hk,(Hgw.out.trans hg2).block k (HS.out k hk) (by simp)⟩) _ _ _ hIi) (fun k hk=>Nat.lt_of_lt_of_le (HS.out k hk) (Hgw.out.trans hg2).size) (HE.out.grown0 (Hgw.out.trans hg2));unfold a0C at hcall;have hstp:=fun (h:a1u (TwR pf ff) p)=>a4V hp Hrl.out h;have hnm:(i:Int)<N:=by omega
     have hwi:IntKind.i64.wrap ((i:Int)+1)=(i:Int)+1:=IntWalk.i64_in _ (by omega);obtain⟨Hcall,Hstp⟩:=xh2 hcall hstp;have Hpp:=xhd (show ∀w w' e,a6Q pf ff p w w' e→∃b:Bool,e=.returned (.bool b)∧(b=true→a1u (TwR pf ff) p)∧w.grownBy w' none from fun _ _ _ h=>h);clear hcall hIi hci hp hcells hblk hstp;generalize a0z p=p1 at *;generalize a1d p=p2 at *;generalize a1c p=p3 at *;generalize a0H p=p4 at *;generalize (⟨(a0I p).toArray⟩:ByteArray)=p5 at *;go_wp2_with fail
     refine(Hcall.out _ (a0a (xgr _ _) _)).mono ?_;intro e w2 hpo;obtain⟨b,rfl,hb,hg2⟩:=Hpp.out _ _ _ hpo;have Hg2:=xhd (Hgw.out.trans ((a0a (xgr _ _) _).trans hg2));have Hb:=xhd hb;clear hg2 hpo hb
     cases b with
     | false =>
      go_wp2_with fail
      go_ret;exact⟨false,rfl,(fun h=>by cases h),Hg2.out⟩
     | true =>
      go_wp2_with fail
      go_roundg (N-(i+1))
      case measure=>rw[Hg.out];omega
      case rel=>exact⟨i+1,by simp,Hstp.out (Hb.out (by trivial)),rfl,by omega,Hg2.out⟩
    ·obtain rfl:i=N:=by omega
     have htk:kids.take i=kids:=List.take_of_length_le (by have:=HN.out;omega);rw[htk]at Hrl;go_wp2_with fail
     go_ret;exact⟨true,rfl,fun _=>Hrk.out.2 Hrl.out,Hgw.out⟩
theorem a8c {pf:By→Nat}{Q:Nat→Prop}(hQ:∀t,a1q t→Q (pf t)):∀(n:Nat) (l:By) (x:PV) (r:By),rdV pf n l false=some (x,r,false)→a1u Q x:=by
 intro n
 induction n with
 | zero=>intro l x r h;simp[rdV]at h
 | succ n ih =>
  intro l x r h
  have hA:∀(m:Nat) (l:By) (acc kids:List PV) (r:By),a1j (rdV pf n) m l false acc=some (kids,r,false)→(∀x∈acc,a1u Q x)→∀x∈kids,a1u Q x:=by
   intro m
   induction m with
   | zero=>intro l acc kids r h;simp[a1j]at h
   | succ m ih2 =>
    intro l acc kids r h ha;obtain⟨m',la,hm,_,hc⟩:=a4o (a2d pf n) h;obtain rfl:m=m':=by omega
    rcases hc with⟨_,_,rfl,_⟩|⟨x,l2,_,hv,hr⟩
    ·exact ha
    ·refine ih2 _ _ _ _ hr fun y hy=>?_
     rcases List.mem_append.1 hy with hy|hy
     ·exact ha y hy
     ·simp at hy;subst hy;exact ih _ _ _ hv
  have hD:∀(m:Nat) (l:By) (ks:List By) (acc:List PV) (res:List By×List PV) (r:By),a0A (rdV pf n) m l false ks acc=some (res,r,false)→(∀x∈acc,a1u Q x)→∀x∈res.2,a1u Q x:=by
   intro m
   induction m with
   | zero=>intro l ks acc res r h;simp[a0A]at h
   | succ m ih2 =>
    intro l ks acc res r h ha;obtain⟨m',la,hm,_,hc⟩:=a2Q (a2d pf n) h;obtain rfl:m=m':=by omega
    rcases hc with⟨_,_,rfl,_⟩|⟨l2,k,x,l3,_,_,_,_,_,hv,hr⟩
    ·exact ha
    ·refine ih2 _ _ _ _ _ hr fun y hy=>?_
     rcases List.mem_append.1 hy with hy|hy
     ·exact ha y hy
     ·simp at hy;subst hy;exact ih _ _ _ hv
  have mk:∀l:List PV,(∀x∈l,a1u Q x)→a1S Q l:=by
   intro l
   induction l with
   | nil=>intro _;trivial
   | cons y l ih2=>intro h;exact⟨h y (by simp),ih2 fun z hz=>h z (by simp[hz])⟩
  obtain⟨_,c,l1,_,_,_,hc⟩:=a2M h;rcases hc with⟨_,t,_,rfl⟩|⟨_,l2,_,ks,vs,h2,rfl⟩|⟨_,_,t,_,rfl⟩|⟨_,k,_,_,_,rfl⟩|⟨_,kids,h2,rfl⟩|⟨_,h2⟩
  ·trivial
  ·exact mk _ (hD _ _ _ _ _ _ h2 (by simp))
  ·trivial
  ·trivial
  ·exact mk _ (hA _ _ _ _ _ h2 (by simp))
  ·simp only[a1p]at h2
   repeat' split at h2
   all_goals first
    | (simp at h2;done)
    | (simp at h2;obtain⟨rfl,_⟩:=h2;trivial)
    | (rcases (a4r h2).2 with⟨_,_,_,_,⟨rfl,_⟩|⟨_,rfl,_⟩⟩<;>trivial)
    | skip
   rename_i h0 h3;have h0:(numF pf (a0c (c::l1))).2.2.2=0:=by simpa using h0
   simp at h2;obtain⟨rfl,_⟩:=h2;have h4:(numF pf (a0c (c::l1))).1=3:=by rcases a7g h0 with e|e;exact absurd e h3;exact e
   obtain⟨_,hok,he⟩:=a3D h0 h4;simp only[a1u];rw[he];exact hQ _ hok
end Go.Proofs.YtfkecmlmnhbmoaaGreatDoor
