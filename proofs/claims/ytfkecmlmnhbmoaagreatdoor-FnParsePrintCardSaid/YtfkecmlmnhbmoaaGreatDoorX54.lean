/- Proved: fnParsePrint_card, the given Rows.FnParsePrintCardSaid: for every text the call of laws.FnParsePrint returns true and leaves its argument as it was
(a text that is an object of 7.3 is, parsed and written, the same object; written once more it is the same text).
Conditions: the row's own and no other: the listed package-level variables start as the program's text lays them (the card ties them; the tie is given). Parts R5 M2 M3 R7 R8a R8. -/
import Derived.Test.YtfkecmlmnhbmoaaGreatDoorCards
import Derived.Test.YtfkecmlmnhbmoaaGreatDoorTie
import Derived.Test.YtfkecmlmnhbmoaaGreatDoorX49
import Derived.Test.YtfkecmlmnhbmoaaGreatDoorX51
import Derived.Test.YtfkecmlmnhbmoaaGreatDoorX52
import Derived.Test.YtfkecmlmnhbmoaaGreatDoorX53
set_option linter.unusedVariables false
set_option linter.unusedSimpArgs false
set_option maxRecDepth 100000
set_option maxHeartbeats 40000000
namespace Go.Proofs.YtfkecmlmnhbmoaaGreatDoor
open Go Go.RowKit Go.Lib Go.ChangeShapes Go.WideShapes Go.ChangeAt Go.ChangeMaps
theorem a6l {P:Program}{W:World}{name:String}{k:IntKind}{zs:List Int}{g:Nat}{t e:TypeId}{n:Nat}
  (hg:P.globalNamed name=some g)(hty:(P.globals[g]?).map (·.type)=some t)(ht:P.underlying t=some (.array n e))(he:P.underlying e=some (.int k))(hce:P.cellsOf e=1)(hct:P.cellsOf t=n)
  (h:VarReads P W name (tabData k zs)):TabIs P W name k zs:=by
 obtain⟨g',t',cs,fuel,p,hg',ht',hvar,hd⟩:=h;obtain rfl:=Option.some.inj (hg.symm.trans hg');obtain rfl:=Option.some.inj (hty.symm.trans ht');unfold TabIs;rw[hvar,←cells_of_tab ht he hce hct hd]
end Go.Proofs.YtfkecmlmnhbmoaaGreatDoor
namespace Go.Proofs.YtfkecmlmnhbmoaaGreatDoor
open Go Go.RowKit Go.Maps
theorem b1S:∀keys:List By,(keys.map fun k=>k.length/16).sum≤(keys.map fun k=>k.length+1).sum
 | []=>by simp
 | k::ks=>by have:=b1S ks;simp only[List.map_cons,List.sum_cons];omega
mutual
theorem IsO.isB2 {S:Nat→Prop}{w:World} : ∀(p:PO) (ks vs:Value),IsO S w p ks vs→∃o,IsB S w o ks vs∧Img p o∧b7 o ks vs=o7 p ks vs∧fwB o≤wtP p
 | .arr ps,ks,vs,h=>by
  simp only[IsO]at h;obtain⟨_,h1,cells,h2,h3⟩:=h;obtain⟨l,h4,h5,h6⟩:=IsOs.isBs2 ps cells h3;refine⟨.mk 7 0 0 0 [] [] l,?_,?_,rfl,?_⟩
  ·simp only[IsB]
   rw[Imgs.len h5]at h2;exact⟨h1,cells,h2,h4⟩
  ·simp only[Img];exact⟨rfl,h5⟩
  ·simp only[fwB,wtP,List.length_nil,List.map_nil,List.sum_nil];omega
 | .dict keys ps,ks,vs,h=>by
  simp only[IsO]at h;obtain⟨_,_,h1,cells,h2,h3⟩:=h;obtain⟨l,h4,h5,h6⟩:=IsOs.isBs2 ps cells h3;refine⟨.mk 8 0 0 0 [] keys l,?_,?_,rfl,?_⟩
  ·simp only[IsB]
   rw[Imgs.len h5]at h2;exact⟨h1,cells,h2,h4⟩
  ·simp only[Img];exact⟨rfl,rfl,h5⟩
  ·have hk:=b1S keys
   simp only[fwB,wtP,List.length_nil];omega
 | .null,ks,vs,h=>by simp only[IsO]at h;exact⟨.mk 0 0 0 0 [] [] [],by simp only[IsB,IsBs];exact⟨h.2.1,[],h.2.2,rfl⟩,by simp[Img,OB.k],rfl,by simp[fwB,fwBs,wtP]⟩
 | .bool b,ks,vs,h=>by simp only[IsO]at h;exact⟨.mk 1 (if b then 1 else 0) 0 0 [] [] [],by simp only[IsB,IsBs];exact⟨h.2.1,[],h.2.2,rfl⟩,by simp[Img,OB.k,OB.i],rfl,by simp[fwB,fwBs,wtP]⟩
 | .int n,ks,vs,h=>by simp only[IsO]at h;exact⟨.mk 2 n 0 0 [] [] [],by simp only[IsB,IsBs];exact⟨h.2.1,[],h.2.2,rfl⟩,by simp[Img,OB.k,OB.i],rfl,by simp[fwB,fwBs,wtP]⟩
 | .real x,ks,vs,h=>by simp only[IsO]at h;exact⟨.mk 3 0 0 x [] [] [],by simp only[IsB,IsBs];exact⟨h.2.1,[],h.2.2,rfl⟩,by simp[Img,OB.k,OB.r],rfl,by simp[fwB,fwBs,wtP]⟩
 | .lit s,ks,vs,h=>by simp only[IsO]at h;exact⟨.mk 4 0 0 0 s [] [],by simp only[IsB,IsBs];exact⟨h.2.1,[],h.2.2,rfl⟩,by simp[Img,OB.k,OB.t],rfl,by simp[fwB,fwBs,wtP];omega⟩
 | .hexl s,ks,vs,h=>by simp only[IsO]at h;exact⟨.mk 5 0 0 0 s [] [],by simp only[IsB,IsBs];exact⟨h.2.1,[],h.2.2,rfl⟩,by simp[Img,OB.k,OB.t],rfl,by simp[fwB,fwBs,wtP];omega⟩
 | .name s,ks,vs,h=>by simp only[IsO]at h;exact⟨.mk 6 0 0 0 s [] [],by simp only[IsB,IsBs];exact⟨h.2.1,[],h.2.2,rfl⟩,by simp[Img,OB.k,OB.t],rfl,by simp[fwB,fwBs,wtP];omega⟩
 | .ref n g,ks,vs,h=>by simp only[IsO]at h;exact⟨.mk 9 n g 0 [] [] [],by simp only[IsB,IsBs];exact⟨h.2.1,[],h.2.2,rfl⟩,by simp[Img,OB.k,OB.i,OB.g],rfl,by simp[fwB,fwBs,wtP]⟩
theorem IsOs.isBs2 {S:Nat→Prop}{w:World} : ∀(ps:List PO) (cells:List Value),IsOs S w ps cells→∃l,IsBs S w l cells∧Imgs ps l∧fwBs l≤wtPs ps
 | [],cells,h=>by simp only[IsOs]at h;exact⟨[],by simp only[IsBs];exact h,by simp only[Imgs],by simp[fwBs]⟩
 | p::ps,cells,h=>by
  simp only[IsOs]at h;obtain⟨ks,vs,rest,h1,h2,h3⟩:=h;obtain⟨o,h4,h5,h6,h9⟩:=IsO.isB2 p ks vs h2;obtain⟨l,h7,h8,h10⟩:=IsOs.isBs2 ps rest h3;exact⟨o::l,by simp only[IsBs];exact⟨ks,vs,rest,by rw[h1,h6],h4,h7⟩,by simp only[Imgs];exact⟨o,l,rfl,h5,h8⟩,by simp only[fwBs,wtPs];omega⟩
end
theorem b9p {p:PO}{o:OB}{ks vs:Value}(h:b7 o ks vs=o7 p ks vs):objV p ks vs=obV o ks vs:=by
 show Value.agg (o7 p ks vs).toArray=Value.agg (b7 o ks vs).toArray
 rw[h]
theorem b6W {ks:List By}(h:ks.Nodup):(ks.mergeSort leBy).Pairwise (· < ·):=by
 have h1:(ks.mergeSort leBy).Pairwise fun a b=>leBy a b=true:=List.pairwise_mergeSort (fun a b c h1 h2=>by
  simp only[leBy,decide_eq_true_eq]at h1 h2⊢
  exact List.le_trans h1 h2) (fun a b=>by
  simp only[leBy,Bool.or_eq_true,decide_eq_true_eq]
  exact List.le_total a b) ks
 have h2:(ks.mergeSort leBy).Nodup:=(List.mergeSort_perm ks leBy).nodup_iff.2 h;refine(h1.and h2).imp fun {a b} hab=>?_;have h3:a≤b:=by simpa only [leBy,decide_eq_true_eq] using hab.1
 rcases List.le_iff_lt_or_eq.1 h3 with h|h
 ·exact h
 ·exact absurd h hab.2
theorem a7t:∀ {l:List PO},srPs l↔∀p∈l,srP p
 | []=>by simp[srPs]
 | q::l=>by simp[srPs,a7t (l:=l)]
mutual
theorem b3a {ff:Nat→By}{R:Nat→Prop} : ∀p:PO,okR ff R p→srP (a1f p)
 | .arr kids,h=>by
  simp only[okR]at h;simp only[a1f,srP];exact a7t.2 (a7r kids h).1
 | .dict keys kids,h=>by
  simp only[okR]at h;obtain⟨g1,g2⟩:=a7r kids h.2.2.2;simp only[a1f,srP];exact⟨b6W h.2.1,a7t.2 fun p hp=>g1 p ((a8i h.2.1 (by rw[g2];exact h.1)).mem_iff.1 hp)⟩
 | .null,_=>by simp[a1f,srP]
 | .bool _,_=>by simp[a1f,srP]
 | .int _,_=>by simp[a1f,srP]
 | .real _,_=>by simp[a1f,srP]
 | .lit _,_=>by simp[a1f,srP]
 | .hexl _,_=>by simp[a1f,srP]
 | .name _,_=>by simp[a1f,srP]
 | .ref _ _,_=>by simp[a1f,srP]
theorem a7r {ff:Nat→By}{R:Nat→Prop} : ∀ps:List PO,okRs ff R ps→(∀q∈a1o ps,srP q)∧(a1o ps).length=ps.length
 | [],_=>by simp[a1o]
 | p :: ps, h => by
  simp only[okRs]at h;have g1:=b3a p h.1;obtain⟨g2,g3⟩:=a7r ps h.2;simp only[a1o]
  exact⟨fun q hq=>by
   rcases List.mem_cons.1 hq with rfl|hq
   ·exact g1
   ·exact g2 q hq,by simp[g3]⟩
end
mutual
theorem b0d {ff:Nat→By}{R:Nat→Prop} : ∀p:PO,okR ff R p→srP p→a1f p=p
 | .arr kids,h,hs=>by
  simp only[okR]at h;simp only[srP]at hs;simp only[a1f,a6e kids h hs]
 | .dict keys kids,h,hs=>by
  simp only[okR]at h;simp only[srP]at hs;simp only[a1f,a6e kids h.2.2.2 hs.2,a8k hs.1,a7f PO.null keys kids h.2.1 h.1]
 | .null,_,_=>rfl
 | .bool _,_,_=>rfl
 | .int _,_,_=>rfl
 | .real _,_,_=>rfl
 | .lit _,_,_=>rfl
 | .hexl _,_,_=>rfl
 | .name _,_,_=>rfl
 | .ref _ _,_,_=>rfl
theorem a6e {ff:Nat→By}{R:Nat→Prop} : ∀ps:List PO,okRs ff R ps→srPs ps→a1o ps=ps
 | [],_,_=>rfl
 | p::ps,h,hs=>by
  simp only[okRs]at h;simp only[srPs]at hs;simp only[a1o,b0d p h.1 hs.1,a6e ps h.2 hs.2]
end
theorem b2Q {P Q:Nat→Prop} : ∀n (p:PO),lvP p≤n→a1M P p→a1M Q p→a1M (fun y=>P y∧Q y) p:=by
 intro n
 induction n with
 | zero=>intro p h;cases p<;>simp[lvP]at h
 | succ n ih =>
  intro p hn h1 h2
  cases p<;>simp only[a1M]at h1 h2⊢
  ·exact⟨h1,h2⟩
  ·rw[a1r]at h1 h2⊢
   simp only[lvP]at hn;exact fun p hp=>ih p (a2q.1 (show lvPs _≤n by omega) p hp) (h1 p hp) (h2 p hp)
  ·rw[a1r]at h1 h2⊢
   simp only[lvP]at hn;exact fun p hp=>ih p (a2q.1 (show lvPs _≤n by omega) p hp) (h1 p hp) (h2 p hp)
def FfX (W0:World)(ff:Nat→By):Prop:=∀x,x<18446744073709551616→x%9223372036854775808<4816244402031689728→FtX x (ff x)∧FfC W0 x (ff x)
theorem FfX.all {W0:World}{ff:Nat→By}(h:FfX W0 ff):b6g ff W0:=fun x h1 h2=>⟨(h x h1 h2).1.1,(h x h1 h2).2⟩
def Back (pf:By→Nat)(ff:Nat→By)(p:PO):Prop:=okR ff (RR pf ff) p∧srP p∧wtP p≤8192∧lvP p≤50∧(prP ff p).length≤150000 ∧
 ∃r2,rdV pf 50 (prP ff p) false=some (valP p,r2,false)∧(a0j false r2 false).1=[]∧∀po,Corr nnF 50 po (valP p)∧Spl pf nnF 50 (lps (prP ff p)) po r2→a1f po=p
theorem b9A (pf:By→Nat)(ff:Nat→By)(W0:World)(hpf2:∀t,a1q t→nnF (pf t)∧a6n t (pf t))(hff:FfX W0 ff){l r:By}{x:PV}{po:PO}(hl:l.length≤8192)(hrd:rdV pf 50 l false=some (x,r,false))(hC:Corr nnF 50 po x∧Spl pf nnF 50 (lps l) po r)(hT:a1u (TwR pf ff) x):Back pf ff (a1f po):=by
 have h64:=a8c (Q:=fun y=>y<18446744073709551616) (fun t ht=>(hpf2 t ht).1.2) 50 _ _ _ hrd;have hT2:=Corr.reals 50 po x hC.1 hT;have h642:=Corr.reals 50 po x hC.1 h64
 have hRr:a1M (fun y=>a1q (ff y)∧RR pf ff y) po:=by
  have h2:∀n (p:PO),lvP p≤n→a1M (fun y=>TwR pf ff y∧y<18446744073709551616) p→a1M (fun y=>a1q (ff y)∧RR pf ff y) p:=by
   intro n
   induction n with
   | zero=>intro p h;cases p<;>simp[lvP]at h
   | succ n ih =>
    intro p hn h1
    cases p<;>simp only[a1M]at h1⊢
    ·exact⟨h1.1.1,h1.1.2.1,h1.2,h1.1.2.2⟩
    ·rw[a1r]at h1⊢
     simp only[lvP]at hn;exact fun p hp=>ih p (a2q.1 (show lvPs _≤n by omega) p hp) (h1 p hp)
    ·rw[a1r]at h1⊢
     simp only[lvP]at hn;exact fun p hp=>ih p (a2q.1 (show lvPs _≤n by omega) p hp) (h1 p hp)
  exact h2 _ po (Nat.le_refl _) (b2Q _ po (Nat.le_refl _) hT2 h642)
 obtain⟨la,hp⟩:∃la,a0j false l false=(la,false):=by
  obtain⟨_,c,l1,hp,_⟩:=a2M hrd;exact⟨_,hp⟩
 have hS:SpF pf nnF 50 (lps l) po r:=⟨x,by rw[a1K hp];exact(a9R hp).trans hrd,hC.1,hC.2⟩;obtain⟨hA,hw⟩:=b7R (ff:=ff) (R:=RR pf ff) 50 _ po r hS hRr;obtain⟨hB,hwt⟩:=b0c ff (RR pf ff) po 50 hA;have hsr:=b3a po hA.1;have hlen:=a4H l;obtain⟨p,hpe⟩:∃p,p=a1f po:=⟨_,rfl⟩;rw[←hpe]at hB hwt hsr⊢;have hfl:∀y,RR pf ff y→(ff y).length≤34:=fun y hy=>(hff y hy.2.1 hy.2.2).1.2.1;have hback:∀y,RR pf ff y→pf (ff y)=y:=fun y hy=>b2P hpf2 hy.2.1 hy.2.2 (hff y hy.2.1 hy.2.2).1 hy.1;have hpw:=b7A hfl p hB.1;obtain⟨r2,h1,h2⟩:=b0O pf ff (RR pf ff) p hB.1 hB.2.2;rw[a8M _ hback p hB.1]at h1;refine⟨hB.1,hsr,by omega,hB.2.2,by omega,r2,h1,h2,fun po2 hC2=>?_⟩
 obtain⟨la2,hp2⟩:∃la,a0j false (prP ff p) false=(la,false):=by
  obtain⟨_,c,l1,hp,_⟩:=a2M h1;exact⟨_,hp⟩
 obtain⟨e1,_⟩:=a5X ff (RR pf ff) p hB.1 [] false;rw[List.append_nil]at e1
 have hS2:SpF pf nnF 50 (prP ff p++[]) po2 r2:=by
  rw[List.append_nil];exact⟨_,h1,hC2.1,by rw[←a1K e1];exact hC2.2⟩
 obtain⟨g1,_⟩:=a9g hback p 50 [] po2 r2 hB.1 hB.2.1 hB.2.2 b1F hS2;rw[g1];exact b0d p hB.1 hsr
open Go.Lib
def b8m (w w':World)(e:Ending):Prop:=e=.returned (.bool true)∧w.grownBy w' none
theorem b4k (pf:By→Nat)(ff:Nat→By)(W0 w:World)(ea eb:Addr)(ca cb:Array Value)(hI:b0k W0 ea eb ca cb)(hpf:PFC pf W0)(hpf2:∀t,a1q t→nnF (pf t)∧a6n t (pf t))(hff:FfX W0 ff)(hT:TabIs Tryz.prog W0 "internal/strconv.uint64pow10" .u64 pow10Tab)(hE:Env W0 w)(l:By) :
  Calls Tryz.prog 5 #[.string (bs l)] w fun e w'=>b8m w w' e:=by
 have hsz:((bs l).size:Int)=(l.length:Nat):=by rw[a0f]
 by_cases hbig:8192<l.length
 ·have h1:(8192:Int)<(bs l).size:=by omega
  generalize bs l=z at *;clear hI hpf hpf2 hff hT hE hsz hbig
  by_cases h2:(2147483647:Int)<z.size
  all_goals
   go_enter Tryz.func5,Tryz.ntmps5;go_wp2_with fail
   go_ret;exact⟨rfl,xgr _ _⟩
 ·have hcl := a8w pf W0 w hI.init hpf hE l (by omega)
  have h1:¬(8192:Int)<(bs l).size:=by omega
  have h2:¬(2147483647:Int)<(bs l).size:=by omega
  cases hrd:rdV pf 50 l false with
  | none =>
   rw[hrd]at hcl;generalize bs l=z at *;clear hT hpf2 hff;have hnn:=trivial;clear hI hpf hE hsz hbig hrd;go_enter Tryz.func5,Tryz.ntmps5;go_wp2_with fail
   refine hcl.mono ?_;rintro e w1⟨v,k,rfl,hk,⟨a1,a2,a3,a4,a5,o1,n1,c1,o2,n2,c2,rfl⟩,hg⟩;have hkb:(k != 0)=true:=by simpa using hk
   have Hg:=xhd hg;clear hcl hk hg;go_wp2_with fail
   go_ret;exact⟨rfl,Hg.out.trans (a0a (xgr _ _) _)⟩
  | some q =>
   obtain⟨x,r,o⟩:=q
   cases o with
   | true =>
    rw[hrd]at hcl;generalize bs l=z at *;clear hT hpf2 hff;have hnn:=trivial;clear hI hpf hE hsz hbig hrd;go_enter Tryz.func5,Tryz.ntmps5;go_wp2_with fail
    refine hcl.mono ?_;rintro e w1⟨v,k,rfl,hk,⟨a1,a2,a3,a4,a5,o1,n1,c1,o2,n2,c2,rfl⟩,hg⟩;have hkb:(k != 0)=true:=by simpa using hk
    have Hg:=xhd hg;clear hcl hk hg;go_wp2_with fail
    go_ret;exact⟨rfl,Hg.out.trans (a0a (xgr _ _) _)⟩
   | false =>
    have hlv:=b9F pf 50 _ _ _ _ _ hrd;have hre:=a8c (Q:=fun y=>y<18446744073709551616) (fun t ht=>(hpf2 t ht).1.2) 50 _ _ _ hrd;have hobj:=b4v pf nnF (fun t ht=>(hpf2 t ht).1) W0 ea eb ca cb hI hpf 50;have hps:=fun (l2:By) (x2:PV) (r2:By) (hl2:l2.length≤150000) (h:rdV pf 50 l2 false=some (x2,r2,false)) (w2:World) (hg2:w.grownBy w2 none)=>a8Q pf nnF W0 50 hobj (by omega) w2 (hE.grown0 hg2) l2 x2 r2 hl2 h;have htd:=fun (S:Nat→Prop) (w2:World) (ks vs:Value) (hIs:IsV S w2 x ks vs) (hS:∀k,S k→k<w2.heap.size) (hg2:w.grownBy w2 none)=>b5p pf ff W0 hpf hff.all 50 (by omega) x S w2 ks vs hlv hre hIs hS (hE.grown0 hg2);have hp5:=fun (po:PO) (hC:Corr nnF 50 po x∧Spl pf nnF 50 (lps l) po r) (hTo:a1u (TwR pf ff) x)=>b9A pf ff W0 hpf2 hff (by omega) hrd hC hTo
    have hpr:=fun (p:PO) (hB:Back pf ff p) (hnu:p≠.null) (S:Nat→Prop) (w2:World) (ks vs:Value) (hIs:IsO S w2 p ks vs) (hS:∀k,S k→k<w2.heap.size) (hg2:w.grownBy w2 none)=>(show Calls Tryz.prog 9 #[objV p ks vs] w2 fun e w'=>b5F ff p w2 w' e from by
     obtain⟨o,h1,h2,h3,h4⟩:=IsO.isB2 p ks vs hIs;rw[b9p h3]
     exact b2E ff (RR pf ff) W0 hT (fun y hy=>(hff y hy.2.1 hy.2.2).2) p o h2 hB.1 hB.2.1 (by have:=hB.2.2.1;omega) hnu (by have:=hB.2.2.2.2.1;omega) S w2 ks vs h1 hS (hE.grown0 hg2))
    have hra:=fun (p:PO) (hB:Back pf ff p) (r2:By) (h1:rdV pf 50 (prP ff p) false=some (valP p,r2,false)) (h2:(a0j false r2 false).1=[]) (w2:World) (hg2:w.grownBy w2 none)=>a8Z pf W0 w2 hI.init hpf (hE.grown0 hg2) (prP ff p) (by have:=hB.2.2.2.2.1;omega) (valP p) r2 false h1 h2;rw[hrd]at hcl;have Hps:=xhd hps;have Hps1:=xhd (hps l x r (by omega) hrd);obtain⟨Hlv,Htd,Hp5,Hpr,Hra⟩:=xh5 hlv htd hp5 hpr hra;obtain⟨z,hz⟩:∃z,z=bs l:=⟨_,rfl⟩;rw[←hz]at hcl Hps1 h1 h2⊢;clear hps hobj hI hpf hpf2 hff hT hE hsz hbig hrd hlv hre htd hp5 hpr hra hz;go_enter Tryz.func5,Tryz.ntmps5;go_wp2_with fail
    refine hcl.mono ?_;rintro e w1⟨ks,vs,S,p,rfl,hpr,hV1,hS1,hg1⟩;obtain⟨⟨ko,kn,kc,rfl⟩,⟨vo,vn,vc,rfl⟩⟩:=hV1.slices;obtain⟨HV1,HS1,Hg1⟩:=xh3 hV1 hS1 hg1;clear hcl hpr hV1 hS1 hg1;obtain⟨W1,hW1⟩:∃W,W=w1.alloc (.cells #[.int .i64 (a0z x),.int .i64 (a1d x),.int .i64 (a1c x),.float .f64 (a0H x),.string ⟨(a0I x).toArray⟩,.slice ko kn kc,.slice vo vn vc] 30):=⟨_,rfl⟩;have hgW:w1.grownBy W1 none:=by rw[hW1];exact a0a (xgr _ _) _
    have hbx:W1.heap[w1.heap.size]?=some (.cells #[.int .i64 (a0z x),.int .i64 (a1d x),.int .i64 (a1c x),.float .f64 (a0H x),.string ⟨(a0I x).toArray⟩,.slice ko kn kc,.slice vo vn vc] 30 (0,0)):=by rw[hW1];exact heap_alloc_new w1 _
    have hIw:=fun (w2:World) (hg2:W1.grownBy w2 none)=>IsV.keep (S':=S) (w':=w2) (fun k hk=>⟨hk,(hgW.trans hg2).block k (HS1.out k hk).2 (by simp)⟩) _ _ _ HV1.out;have hSw:=fun (w2:World) (hg2:W1.grownBy w2 none) k (hk:S k)=>Nat.lt_of_lt_of_le (HS1.out k hk).2 (hgW.trans hg2).size;have hmd:=b0D x S W1 (.slice ko kn kc) (.slice vo vn vc) (by have:=Hlv.out;omega) (hIw W1 (xgr _ _)) (hSw W1 (xgr _ _));have htd:=fun (w2:World) (hg2:W1.grownBy w2 none)=>Htd.out S w2 (.slice ko kn kc) (.slice vo vn vc) (hIw w2 hg2) (hSw w2 hg2) (Hg1.out.trans (hgW.trans hg2))
    have hk0:∀po:PO,(Corr nnF 50 po x)→a0z x≠0→po≠.null:=fun po hC hk e=>by
     subst e
     cases x<;>simp[Corr]at hC
     exact hk rfl
    have hun:∀w w' e,a6Q pf ff x w w' e→∃b:Bool,e=.returned (.bool b)∧(b=true→a1u (TwR pf ff) x)∧w.grownBy w' none:=fun _ _ _ h=>h;unfold a0C at hmd htd⊢;obtain⟨Hmd,Htd2,HIw,HSw,Hbx⟩:=xh5 hmd htd hIw hSw hbx;have HgW:=xhd (Hg1.out.trans hgW);obtain⟨Hk0,Hun⟩:=xh2 hk0 hun;clear hmd htd hIw hSw hbx hgW hk0 hun Htd HV1 HS1
    go_upto_region 6 with (fail)
    rw[←hW1];clear hW1;obtain⟨x0,x1,x2,x3,x4,x5,x6,xf⟩:=a0n Hbx.out;go_wp2_with fail
    refine Hmd.out.mono ?_;rintro e w2⟨⟨b,rfl,_⟩,hg2⟩;have Hg2:=xhd hg2;have hb2:=(hg2.block _ (xgl Hbx.out) (by simp)).trans Hbx.out;clear hg2 x0 x1 x2 x3 x4 x5 x6 xf;obtain⟨x0,x1,x2,x3,x4,x5,x6,xf⟩:=a0n hb2;clear hb2
    cases b
    ·go_wp2_with fail
     go_ret;exact⟨rfl,HgW.out.trans Hg2.out⟩
    ·go_wp2_with fail
     refine(Htd2.out w2 Hg2.out).mono ?_;intro e w3 hto;obtain⟨b,rfl,hto2,hg3⟩:=Hun.out _ _ _ hto;have Hto:=xhd hto2;have Hg3:=xhd (Hg2.out.trans hg3);have hb3:=((Hg2.out.trans hg3).block _ (xgl Hbx.out) (by simp)).trans Hbx.out;have Hb3:=xhd hb3;clear hg3 hto hto2 x0 x1 x2 x3 x4 x5 x6 xf;obtain⟨x0,x1,x2,x3,x4,x5,x6,xf⟩:=a0n hb3;clear hb3
     cases b
     ·go_wp2_with fail
      go_ret;exact⟨rfl,HgW.out.trans Hg3.out⟩
     ·by_cases hk:a0z x=0
      ·have hkb:(a0z x==0)=true:=by simp[hk]
       clear hk;go_wp2_with fail
       go_ret;exact⟨rfl,HgW.out.trans Hg3.out⟩
      ·have hkb:(a0z x==0)=false:=by simpa using hk
       have Hk:=xhd hk;clear hk;go_wp2_with fail
       clear x0 x1 x2 x3 x4 x5 x6 xf;refine(Hps1.out w3 (HgW.out.trans Hg3.out)).mono ?_;rintro e w4⟨po,lks,lvs,S3,rfl,hO3,hS3,hC,hg4⟩;obtain⟨⟨lko,lkn,lkc,rfl⟩,⟨lvo,lvn,lvc,rfl⟩⟩:=IsO.slices hO3;have hB:=Hp5.out po hC (Hto.out (by trivial));have hnu0:=Hk0.out po hC.1 Hk.out;have hsame:=Corr.same (eqv:=eqvF) (fun _ h=>h.1) 50 po x hC.1;have hnu:a1f po≠.null:=fun e=>hnu0 (a8j e);obtain⟨q,hq⟩:∃q,q=a1f po:=⟨_,rfl⟩;rw[←hq]at hO3 hB hnu hsame⊢;obtain⟨W5,hW5⟩:∃W,W=w4.alloc (.cells #[.int .i64 (kO q),.int .i64 (iO q),.int .i64 (gO q),.float .f64 (rO q),.string (bs (tO q)),.slice lko lkn lkc,.slice lvo lvn lvc] 26):=⟨_,rfl⟩;have hg5:w4.grownBy W5 none:=by rw[hW5];exact a0a (xgr _ _) _
       have hbo:W5.heap[w4.heap.size]?=some (.cells #[.int .i64 (kO q),.int .i64 (iO q),.int .i64 (gO q),.float .f64 (rO q),.string (bs (tO q)),.slice lko lkn lkc,.slice lvo lvn lvc] 26 (0,0)):=by rw[hW5];exact heap_alloc_new w4 _
       have hG5:W1.grownBy W5 none:=Hg3.out.trans (hg4.trans hg5);have hcp:=Hpr.out q hB hnu S3 W5 _ _ (IsO.keep (S':=S3) (fun k hk=>⟨hk,hg5.block k (hS3 k hk).2 (by simp)⟩) _ _ _ hO3) (fun k hk=>Nat.lt_of_lt_of_le (hS3 k hk).2 hg5.size) (HgW.out.trans hG5);obtain⟨hb1,hb2,hb3,hb4,hb5,r2,hb6,hb7,hb8⟩:=hB;have hrx:=Hra.out q ⟨hb1,hb2,hb3,hb4,hb5,r2,hb6,hb7,hb8⟩ r2 hb6 hb7;have hpx:=Hps.out (prP ff q) (valP q) r2 hb5 hb6;have hpr2:=Hpr.out q ⟨hb1,hb2,hb3,hb4,hb5,r2,hb6,hb7,hb8⟩ hnu;obtain⟨Hb8,Hsame,Hrx,Hpx,Hpr2,HG5,Hbo,Hq⟩:=xh8 hb8 hsame hrx hpx hpr2 hG5 hbo hq;clear hO3 hS3 hC hg4 hg5 hG5 hbo hb1 hb2 hb3 hb4 hb5 hb6 hb7 hb8 hrx hpx hpr2 hnu hnu0 hsame hq Hpr Hra Hps Hps1 Hp5 Hto Hk0 Hun Htd2 Hmd Hg3 Hg2 Hk hkb Hlv h1 h2;unfold objV at hcp⊢;have Hcp:=xhd hcp;clear hcp
       go_upto_region 9 with (fail)
       rw[←hW5];clear hW5;obtain⟨y0,y1,y2,y3,y4,y5,y6,yf⟩:=a0n Hbo.out;generalize kO q=q1 at *;generalize iO q=q2 at *;generalize gO q=q3 at *;generalize rO q=q4 at *;generalize bs (tO q)=q5 at *;go_wp2_with fail
       refine Hcp.out.mono ?_;rintro e w6⟨rfl,hg6⟩;have HG6:=xhd (HG5.out.trans hg6);clear hg6 y0 y1 y2 y3 y4 y5 y6 yf Hcp Hbo HG5;obtain⟨zt,hzt⟩:∃z,z=bs (prP ff q):=⟨_,rfl⟩;have hrx2:=Hrx.out w6 (HgW.out.trans HG6.out);rw[←hzt]at hrx2⊢;obtain⟨Hrx2,Hzt⟩:=xh2 hrx2 hzt;clear hrx2 hzt Hrx;go_wp2_with fail
       refine Hrx2.out.mono ?_;rintro e w7⟨mks,mvs,S6,rfl,hV6,hS6,hg7⟩;obtain⟨⟨mko,mkn,mkc,rfl⟩,⟨mvo,mvn,mvc,rfl⟩⟩:=hV6.slices;obtain⟨X,hX⟩:∃X,X=valP q:=⟨_,rfl⟩;have hsame:=Hsame.out;have hpx:=fun (w2:World) (hg2:w.grownBy w2 none)=>Hpx.out w2 hg2;rw[←hX]at hV6 hsame⊢;rw[←Hzt.out]at hpx;obtain⟨W8,hW8⟩:∃W,W=w7.alloc (.cells #[.int .i64 (a0z X),.int .i64 (a1d X),.int .i64 (a1c X),.float .f64 (a0H X),.string ⟨(a0I X).toArray⟩,.slice mko mkn mkc,.slice mvo mvn mvc] 30):=⟨_,rfl⟩;have hg8:w7.grownBy W8 none:=by rw[hW8];exact a0a (xgr _ _) _
       have hby:W8.heap[w7.heap.size]?=some (.cells #[.int .i64 (a0z X),.int .i64 (a1d X),.int .i64 (a1c X),.float .f64 (a0H X),.string ⟨(a0I X).toArray⟩,.slice mko mkn mkc,.slice mvo mvn mvc] 30 (0,0)):=by rw[hW8];exact heap_alloc_new w7 _
       have hG8:W1.grownBy W8 none:=HG6.out.trans (hg7.trans hg8);have hV8:=IsV.keep (S':=S6) (fun k hk=>⟨hk,hg8.block k (hS6 k hk).2 (by simp)⟩) _ _ _ hV6;have hS8:∀k,S6 k→k<W8.heap.size:=fun k hk=>Nat.lt_of_lt_of_le (hS6 k hk).2 hg8.size;have Hpx2:=xhd (hpx W8 (HgW.out.trans hG8));obtain⟨HV8,HS8,Hsame2,Hby,HG8⟩:=xh5 hV8 hS8 hsame hby hG8;clear hV6 hS6 hg7 hX hsame hpx hg8 hby hG8 hV8 hS8 Hpx Hsame HG6 Hrx2;unfold a0C
       go_upto_region 11 with (fail)
       rw[←hW8];clear hW8;go_wp2_with fail
       refine Hpx2.out.mono ?_;rintro e w9⟨po2,nks,nvs,S9,rfl,hO9,hS9,hC9,hg9⟩;obtain⟨⟨nko,nkn,nkc,rfl⟩,⟨nvo,nvn,nvc,rfl⟩⟩:=IsO.slices hO9;have e9:=Hb8.out po2 hC9;rw[e9]at hO9⊢;obtain⟨W10,hW10⟩:∃W,W=w9.alloc (.cells #[.int .i64 (kO q),.int .i64 (iO q),.int .i64 (gO q),.float .f64 (rO q),.string (bs (tO q)),.slice nko nkn nkc,.slice nvo nvn nvc] 26):=⟨_,rfl⟩;have hg10:w9.grownBy W10 none:=by rw[hW10];exact a0a (xgr _ _) _
       have hbo:W10.heap[w9.heap.size]?=some (.cells #[.int .i64 (kO q),.int .i64 (iO q),.int .i64 (gO q),.float .f64 (rO q),.string (bs (tO q)),.slice nko nkn nkc,.slice nvo nvn nvc] 26 (0,0)):=by rw[hW10];exact heap_alloc_new w9 _
       have hcp:=Hpr2.out S9 W10 _ _ (IsO.keep (S':=S9) (fun k hk=>⟨hk,hg10.block k (hS9 k hk).2 (by simp)⟩) _ _ _ hO9) (fun k hk=>Nat.lt_of_lt_of_le (hS9 k hk).2 hg10.size) (HgW.out.trans (HG8.out.trans (hg9.trans hg10)));have Hbo:=xhd hbo;have Hg810:=xhd (hg9.trans hg10);clear hO9 hS9 hC9 hg9 e9 hg10 hbo Hpx2 Hb8 Hpr2;unfold objV at hcp⊢;have Hcp:=xhd hcp;clear hcp
       go_upto_region 12 with (fail)
       rw[←hW10];clear hW10;obtain⟨y0,y1,y2,y3,y4,y5,y6,yf⟩:=a0n Hbo.out;generalize kO q=u1 at *;generalize iO q=u2 at *;generalize gO q=u3 at *;generalize rO q=u4 at *;generalize bs (tO q)=u5 at *;go_wp2_with fail
       refine Hcp.out.mono ?_;rintro e w11⟨rfl,hg11⟩;rw[←Hzt.out];have hg811:=Hg810.out.trans hg11;have hg111:=HG8.out.trans hg811;have hbx:=(hg111.block _ (xgl Hbx.out) (by simp)).trans Hbx.out;have hby:=(hg811.block _ (xgl Hby.out) (by simp)).trans Hby.out
       have hcall:=b2V 50 X x (fun k=>S6 k∨S k) w11 (.slice mko mkn mkc) (.slice mvo mvn mvc) (.slice ko kn kc) (.slice vo vn vc) Hsame2.out (IsV.keep (fun k hk=>⟨.inl hk,hg811.block k (HS8.out k hk) (by simp)⟩) _ _ _ HV8.out) (IsV.keep (fun k hk=>⟨.inr hk,rfl⟩) _ _ _ (HIw.out w11 hg111)) (fun k hk=>by
        rcases hk with hk|hk
        ·exact Nat.lt_of_lt_of_le (HS8.out k hk) hg811.size
        ·exact HSw.out w11 hg111 k hk)
       unfold a0C at hcall;have Hcall:=xhd hcall;have Hg11:=xhd (HgW.out.trans hg111);clear hcall hg811 hg111 hg11 y0 y1 y2 y3 y4 y5 y6 yf Hcp Hbo;obtain⟨x0,x1,x2,x3,x4,x5,x6,xf⟩:=a0n hbx;obtain⟨y0,y1,y2,y3,y4,y5,y6,yf⟩:=a0n hby;clear hbx hby;generalize a0z x=p1 at *;generalize a1d x=p2 at *;generalize a1c x=p3 at *;generalize a0H x=p4 at *;generalize (⟨(a0I x).toArray⟩:ByteArray)=p5 at *;generalize a0z X=d1 at *;generalize a1d X=d2 at *;generalize a1c X=d3 at *;generalize a0H X=d4 at *;generalize (⟨(a0I X).toArray⟩:ByteArray)=d5 at *;go_wp2_with fail
       refine Hcall.out.mono ?_;rintro e w12⟨rfl,hg12⟩;have Hg12:=xhd hg12;clear hg12;go_wp2_with fail
       go_ret;exact⟨rfl,Hg11.out.trans Hg12.out⟩
end Go.Proofs.YtfkecmlmnhbmoaaGreatDoor
namespace Go.Proofs.YtfkecmlmnhbmoaaGreatDoor
open Go Go.RowKit Go.Lib Go.ChangeShapes Go.WideShapes Go.ChangeAt Go.ChangeMaps
theorem b9U {W:World}(h:laidMet Tryz.prog Rows.fnParsePrintRow.laid W):TabIs Tryz.prog W "internal/strconv.uint64pow10" .u64 pow10Tab:=by
 have h8:VarReads Tryz.prog W "internal/strconv.uint64pow10" (tabData .u64 pow10Tab):=Go.Lib.laidMet.reads h (List.mem_of_getElem? (i:=8) rfl);exact a6l g12 (by kernel_rfl) Tryz.underlying249 (by kernel_rfl) (by kernel_rfl) (by kernel_rfl) h8
theorem b1o (H:Type)(enc:TypeId×Value→H)(W:World)(base:Nat)(args:Array Value)(ds gs:List (DataW H))(before:List MemPlace)
  (hval:∀(j:Nat) t v,Tryz.f5.params[j]?=some t→args[j]?=some v→Value.okWide Tryz.prog W .any base t v)
  (hW:DataW.Whole enc Tryz.prog Tryz.f5.params.toList Rows.fnParsePrintSpec.vars false W args.toList ds gs before)(hL:laidMetH Tryz.prog Rows.fnParsePrintRow.laid W) :
  Calls Tryz.prog 5 args W fun e W'=>∃v,e=.returned v∧Rows.fnParsePrintSpec.post enc Tryz.prog Tryz.f5 false true false false W args v W':=by
 have hL':laidMet Tryz.prog Rows.fnParsePrintRow.laid W:=hL;obtain⟨hF,ea,eb,ca,cb,hQ⟩:=a8E hL';have hT:=b9U hL';obtain⟨pf,hpf,hnn⟩:=b6m W hF;obtain⟨ff,hff⟩:=b6f W hF.toa5t hT;have hW':=hW;obtain⟨p,q,hA0,hV,hpq,hfz,hnd⟩:=hW;have hA:DataW.TrodAll enc Tryz.prog W 0 (fun _=>true) true Tryz.f5.params.toList args.toList ds p:=hA0;rw[Tryz.params5]at hA hval;obtain⟨v0,vs0,d0,ds0,p0,q0,hargs,rfl,rfl,h0,r0⟩:=trodAll_cons hA;obtain⟨rfl,rfl,rfl⟩:=trodAll_nil r0;obtain rfl:args=#[v0]:=by cases args;simp_all
 obtain⟨s,rfl,rfl,rfl,hs⟩:=open_string Tryz.underlying9 (hval 0 9 v0 rfl rfl) h0;clear hA0;have hlen:=a4W hV;have walk:=b4k pf ff W W ea eb ca cb hQ hpf hnn hff hT (Env.refl W) s.data.toList;rw[←c1B]at walk;refine walk.mono fun e W' ⟨he,hg⟩=>?_;subst he;have hb:=b3O hg
 match gs,hlen with
 | [g1,g2,g3,g4,g5,g6,g7,g8,g9,g10,g11,g12],_ =>
  exact⟨_,rfl,b2y (pa:=[]) (pv:=q) hb hW' (fun _ _ _=>trodAll_cons_mk (shut_bool Tryz.underlying4 _) trodAll_mk0) (fun _ _=>trodAll_cons_mk (shut_string Tryz.underlying9 hs) trodAll_mk0)
   (fun sp hsp=>a4w (by kernel_rfl) hb sp (by kernel_rfl) (fun x hx=>hsp x (by rw[hpq];simp[hx])) hV) (by simpa using hpq)
   (ok_one (by kernel_rfl) rfl (okWide_bool_mk Tryz.underlying4 _))⟩
end Go.Proofs.YtfkecmlmnhbmoaaGreatDoor
namespace Go.Proofs.YtfkecmlmnhbmoaaGreatDoor
open Go Go.RowKit
theorem b4y:ownKnob Tryz.prog.godebug=none:=by kernel_rfl
theorem b4U (os:Os){H:Type}(enc:TypeId×Value→H):∃x,DataW.whole enc Tryz.prog (witW os).memory Tryz.f5.params.toList Rows.fnParsePrintSpec.vars false #[Value.string ⟨#[]⟩].toList 8=some x :=
 Option.isSome_iff_exists.1 (by kernel_rfl)
theorem b1V (os:Os)(started:os.Started)(H:Type)(enc:TypeId×Value→H)(F:Stop.Interp) :
  ReturnsInHanded {} Tryz.checked os 5 .any ((OpenSpec.ofChange Rows.fnParsePrintSpec).preRow enc Tryz.prog Tryz.f5 Rows.fnParsePrintRow.domain false Rows.fnParsePrintRow.laid) (((OpenSpec.ofChange Rows.fnParsePrintSpec).at F).post enc Tryz.prog Tryz.f5 false true false false):=by
 obtain⟨x,hx⟩:=b4U os enc
 refine returnsInHanded_of_row (C:=Tryz.checked) (s:=OpenSpec.ofChange Rows.fnParsePrintSpec) b4y started (by kernel_rfl) Tryz.func5
  (witness_row_atRef (enc:=enc) (C:=Tryz.checked) false (a7P os) #[.string ⟨#[]⟩] rfl (b5y os) (b5x os) (by kernel_rfl)
   (OpenSpec.preRow_of_cond 8 hx rfl (fun k hk=>by cases hk) (by kernel_rfl) (b0y os))) ?_
 intro W base args ds gs before hval hW _ _ _ hL _ _;exact b1o H enc W base args ds gs before hval hW hL
theorem b7K:Rows.FnParsePrintSaid :=
 OpenClaim.holds_of_cond 5 Tryz.f5 rfl rfl rfl rfl rfl rfl rfl ⟨rfl,rfl,rfl,rfl,rfl⟩ rfl rfl rfl rfl rfl b7e Tryz.func5 b3Y b6T b8g
  (fun os started H enc _ F=>by rw[OpenClaim.pre_eq_preRow];exact b1V os started H enc F)
theorem fnParsePrint_card:Rows.FnParsePrintCardSaid :=
 Claim7.holds_tied_plain_at .later [] _ _ _ _ b7K (fun _ h=>by cases h) b9Z (fun _ h=>by cases h) fnParsePrint_row_tie rfl ⟨rfl,rfl⟩ b7d rfl b4C b6I
end Go.Proofs.YtfkecmlmnhbmoaaGreatDoor
