/- Parts B2g. -/
import Derived.Test.YtfkecmlmnhbmoaaGreatDoorW10
set_option linter.unusedVariables false
set_option linter.unusedSimpArgs false
set_option maxRecDepth 100000
set_option maxHeartbeats 40000000
namespace Go.Proofs.YtfkecmlmnhbmoaaGreatDoor
open Go Go.RowKit
theorem ref_g (pf:By→Nat)(W0 w:World)(hI:Init W0)(hpf:PFC pf W0)(hE:Env W0 w)(b:Nat)(s:ByteArray)(p l:By)(deep:Int)(odd ends:Bool)(hR:RdAt w b s p l 0 deep odd ends)(hs:s.size≤140737488351240)
  (hW0:W0.heap.size≤b)(n:Int)(text:ByteArray)(tl:By)(htl:text.data.toList=tl)(hnum:numF pf tl=(2,n,0,0))
  {la:By}{oa:Bool}{gn:Int}{gx:Nat}(hP1:passM false l odd=(la,oa))(hN:numF pf (wordT la)=(2,gn,gx,0))
  {lc:By}{oc:Bool}(hP5:passM false (wordR la) (wordO la oa)=(lc,oc)){c:UInt8}{W:By}(hW:wordT lc=c::W){O:Bool}(hO:wordO lc oc=O)(hw:c::W=[82])(hdg':headIs (wordT la) isDig=false) :
  Calls Tryz.prog 64 #[.pointer (some ⟨b,0,none⟩),numV 2 n 0,.string text] w fun e w'=>RefPost w w' b s deep ends e (refF pf n tl l odd):=by
 have hst:((0:Int)==1)=false:=rfl;have HR:=xhd hR;have hbB:=hR.lt;obtain⟨c0,c1,c2,c3,c4,c5,cf⟩:=hR.cells;obtain⟨HI,Hpf,HE,Htl,Hnum⟩:=xh5 hI hpf hE htl hnum;clear hI hpf hE htl hnum
 clear hR;unfold numV;go_enter Tryz.func64,Tryz.ntmps64;go_wp2_with fail
 have hal:=alloc3 w (NB n) (.cells #[.int .i64 0,.int .i64 0,.int .i64 0,.float .f64 0,.string ⟨#[]⟩,.slice none 0 0,.slice none 0 0] 30 (0,0)) (.cells #[.string s,.int .i64 p.length,.int .i64 0,.int .i64 deep,.bool odd,.bool ends] 57 (0,0));refine(pass_any _ (w.heap.size+1+1) s p l 0 deep odd ends (by exact⟨HR.out.1,hal.2.2.1⟩) (by omega)).mono ?_;rintro e w1⟨rfl,⟨p1,hA1⟩,hg1⟩;have hI0:RefI w _ b s p l deep odd ends n p l odd:=⟨hal.2.2.2.2.but _,HR.out.grown hal.2.2.2.2 (by simp),⟨HR.out.1,hal.2.2.1⟩,hal.1,hal.2.1,hbB⟩;have HJ:=xhd (hI0.call hg1 hA1);clear hI0 hg1 hA1 hal c0 c1 c2 c3 c4 c5 cf;rw[hP1]at HJ;go_wp2_with fail
 refine(word_any _ (w.heap.size+1+1) s p1 la 0 deep oa ends (by exact HJ.out.hA) (by omega)).mono ?_;rintro e w2⟨rfl,hA2,hg2⟩;have HJ2:=xhd (HJ.out.call hg2 hA2);clear hg2 hA2 HJ
 have hsz2:(wordT la).length≤140737488351240:=by
  have:=HJ2.out.hA.size;simp at this;omega
 generalize hsec:(⟨(wordT la).toArray⟩:ByteArray)=sec;have hsz3:sec.size≤140737488351240:=by rw[←hsec];show (List.toArray (wordT la)).size≤140737488351240;simpa using hsz2
 have hsl:sec.data.toList=wordT la:=by rw[←hsec]
 obtain⟨Hsec,Hsl⟩:=xh2 hsec hsl;clear hsec hsl
 go_wp2_with fail
 refine(number_any pf W0 _ HI.out Hpf.out (by exact HE.out.grown HJ2.out.hG (fun k hk=>by injection hk with hk;omega)) sec (wordT la) Hsl.out hsz3).mono ?_;rintro e w3⟨rfl,hg3⟩;have HJ3:=xhd (HJ2.out.call0 hg3);clear hg3 HJ2;rw[hN];obtain⟨HP1,HN⟩:=xh2 hP1 hN;clear hP1 hN
 unfold numRet numV;have hc9:w.heap.size+1+1<w3.heap.size:=HJ3.out.hA.lt;have HJ4:=xhd (HJ3.out.call0 (gr_alloc (xgr w3 none) (NG 2 gn gx)));have HN4:=xhd (heap_alloc_new w3 (NG 2 gn gx));clear HJ3;go_wp2_with fail
 refine(pass_any _ (w.heap.size+1+1) s _ _ 0 deep _ ends (by exact HJ4.out.hA) (by omega)).mono ?_;rintro e w5⟨rfl,⟨p5,hA5⟩,hg5⟩;have HJ5:=xhd (HJ4.out.call hg5 hA5);have HN5:=xhd (keep hg5 HN4.out (by simp;omega));clear HJ4 HN4 hA5 hg5;rw[hP5]at HJ5;go_wp2_with fail
 refine(word_any _ (w.heap.size+1+1) s p5 lc 0 deep oc ends (by exact HJ5.out.hA) (by omega)).mono ?_;rintro e w6⟨rfl,hA6,hg6⟩;have HJ6:=xhd (HJ5.out.call hg6 hA6);have HN6:=xhd (keep hg6 HN5.out (by simp;omega));clear HJ5 HN5 hA6 hg6;have HP5:=xhd hP5;clear hP5
 obtain⟨c0,c1,c2,c3,c4,c5,cf⟩:=HJ6.out.hR.cells;obtain⟨a0,a1,a2,a3,a4,a5,af⟩:=HJ6.out.hA.cells;obtain⟨v0,v1,v2,v3,v4,v5,v6,vf⟩:=cells7 HJ6.out.hV;obtain⟨z0,z1,z2,z3,z4,z5,z6,zf⟩:=zb_cells HJ6.out.hZ;obtain⟨n0,n1,n2,n3,n4,n5,n6,nf⟩:=cells7 HN6.out;have hb3:w.heap.size+1+1<w6.heap.size:=HJ6.out.hA.lt;have hb4:b<w6.heap.size:=by omega
 have hb5:w.heap.size<w6.heap.size:=by omega
 have hb6:w.heap.size+1<w6.heap.size:=by omega
 have hn1:¬w.heap.size+1=b:=by omega
 rw[hO]at a4 HJ6;generalize hwd:(⟨(wordT lc).toArray⟩:ByteArray)=wd;have hwl:wd.data.toList=wordT lc:=by rw[←hwd]
 obtain⟨Hwd,Hwl⟩:=xh2 hwd hwl;clear hwd hwl
 rw[hW]at Hwl;obtain⟨HW,HO⟩:=xh2 hW hO;clear hW hO
 obtain⟨hlt0,hc0,hd0,hr0,hr1⟩:=at_byte (pre:=[]) (by simpa using Hwl.out);simp only[List.length_nil]at hlt0 hc0 hd0;have hwe:¬wd.toList=[]:=by rw[ByteArray.toList_eq,Hwl.out];simp
 have hie:wd.toList.isEmpty=false:=by rw[ByteArray.toList_eq,Hwl.out];rfl
 have hw1:wd.toList=[82]:=by rw[ByteArray.toList_eq,Hwl.out,hw]
 have h82:((c.toNat:Int)==82)=true:=by injection hw with e1 e2;rw[e1];rfl
 have Hw:=xhd hw;clear hw
 have hne:wordT la≠[]:=by intro e;have:=HN.out;rw[e]at this;simp[numF,numStrip,numScan]at this
 have hne2:tl≠[]:=by intro e;have:=Hnum.out;rw[e]at this;simp[numF,numStrip,numScan]at this
 obtain⟨d,S,hS⟩:=List.exists_cons_of_ne_nil hne;obtain⟨t0,T,hT⟩:=List.exists_cons_of_ne_nil hne2;have hs2:sec.data.toList=d::S:=Hsl.out.trans hS;have ht2:text.data.toList=t0::T:=Htl.out.trans hT;obtain⟨hlts,hcs,hds,hrs0,hrs1⟩:=at_byte (pre:=[]) (by simpa using hs2);obtain⟨hltt,hct,hdt,hrt0,hrt1⟩:=at_byte (pre:=[]) (by simpa using ht2);simp only[List.length_nil]at hlts hcs hds hltt hct hdt;clear hs2 ht2 hne hne2;have hdg:isDig (d.toNat:Int)=false:=by rw[hS]at hdg';exact hdg'
 have hres:=ref_1 (n:=n) (tl:=tl) HP1.out HN.out hst HP5.out HW.out HO.out (.inr (.inr (.inr (.inl hdg'))));obtain⟨HS,HT,Hdg⟩:=xh3 hS hT hdg';clear hS hT hdg'
 cases odd<;>cases O
 all_goals
  simp only[Bool.false_or,Bool.true_or,Bool.or_false,Bool.or_true,Bool.or_self,headIs,h82]at hres;go_wp2_with (go_at_call 75;refine(digit_eq hdg _).mono ?_;rintro e w'⟨rfl,rfl⟩)
  have Hres:=xhd hres;clear hres
  refine bodyPost_ret (v:=valOf (.int n) nilS nilS) (by simp[results,Tryz.results64,go_sem,valOf,nilS,pvKind,pvInt,pvGen,pvReal,pvText,z0,z1,z2,z3,z4,z5,z6,hb3,hb4,hb5,hb6,hn1]) rfl ?_;rw[Hres.out];refine⟨rfl,⟨p,(by repeat (first|with_reducible exact HJ6.out.hR|with_reducible apply RdAt.alloc|with_reducible apply RdAt.set4|((with_reducible refine RdAt.setO ?_ ?_ _ _);rotate_left;(first|omega|(simp;omega)))))⟩,(by repeat (first|with_reducible exact HJ6.out.hG|with_reducible apply gr_alloc|with_reducible apply gr_drewN|with_reducible apply gr_drew|with_reducible apply gr_set|((with_reducible refine gr_setM ?_ ?_ _ _);rotate_left;(first|omega|(simp;omega)))))⟩
theorem ref_h (pf:By→Nat)(W0 w:World)(hI:Init W0)(hpf:PFC pf W0)(hE:Env W0 w)(b:Nat)(s:ByteArray)(p l:By)(deep:Int)(odd ends:Bool)(hR:RdAt w b s p l 0 deep odd ends)(hs:s.size≤140737488351240)
  (hW0:W0.heap.size≤b)(n:Int)(text:ByteArray)(tl:By)(htl:text.data.toList=tl)(hnum:numF pf tl=(2,n,0,0))
  {la:By}{oa:Bool}{gn:Int}{gx:Nat}(hP1:passM false l odd=(la,oa))(hN:numF pf (wordT la)=(2,gn,gx,0))
  {lc:By}{oc:Bool}(hP5:passM false (wordR la) (wordO la oa)=(lc,oc)){c:UInt8}{W:By}(hW:wordT lc=c::W){O:Bool}(hO:wordO lc oc=O)(hw:c::W=[82])(hdg':headIs (wordT la) isDig=true)(hdt':headIs tl isDig=false) :
  Calls Tryz.prog 64 #[.pointer (some ⟨b,0,none⟩),numV 2 n 0,.string text] w fun e w'=>RefPost w w' b s deep ends e (refF pf n tl l odd):=by
 have hst:((0:Int)==1)=false:=rfl;have HR:=xhd hR;have hbB:=hR.lt;obtain⟨c0,c1,c2,c3,c4,c5,cf⟩:=hR.cells;obtain⟨HI,Hpf,HE,Htl,Hnum⟩:=xh5 hI hpf hE htl hnum;clear hI hpf hE htl hnum
 clear hR;unfold numV;go_enter Tryz.func64,Tryz.ntmps64;go_wp2_with fail
 have hal:=alloc3 w (NB n) (.cells #[.int .i64 0,.int .i64 0,.int .i64 0,.float .f64 0,.string ⟨#[]⟩,.slice none 0 0,.slice none 0 0] 30 (0,0)) (.cells #[.string s,.int .i64 p.length,.int .i64 0,.int .i64 deep,.bool odd,.bool ends] 57 (0,0));refine(pass_any _ (w.heap.size+1+1) s p l 0 deep odd ends (by exact⟨HR.out.1,hal.2.2.1⟩) (by omega)).mono ?_;rintro e w1⟨rfl,⟨p1,hA1⟩,hg1⟩;have hI0:RefI w _ b s p l deep odd ends n p l odd:=⟨hal.2.2.2.2.but _,HR.out.grown hal.2.2.2.2 (by simp),⟨HR.out.1,hal.2.2.1⟩,hal.1,hal.2.1,hbB⟩;have HJ:=xhd (hI0.call hg1 hA1);clear hI0 hg1 hA1 hal c0 c1 c2 c3 c4 c5 cf;rw[hP1]at HJ;go_wp2_with fail
 refine(word_any _ (w.heap.size+1+1) s p1 la 0 deep oa ends (by exact HJ.out.hA) (by omega)).mono ?_;rintro e w2⟨rfl,hA2,hg2⟩;have HJ2:=xhd (HJ.out.call hg2 hA2);clear hg2 hA2 HJ
 have hsz2:(wordT la).length≤140737488351240:=by
  have:=HJ2.out.hA.size;simp at this;omega
 generalize hsec:(⟨(wordT la).toArray⟩:ByteArray)=sec;have hsz3:sec.size≤140737488351240:=by rw[←hsec];show (List.toArray (wordT la)).size≤140737488351240;simpa using hsz2
 have hsl:sec.data.toList=wordT la:=by rw[←hsec]
 obtain⟨Hsec,Hsl⟩:=xh2 hsec hsl;clear hsec hsl
 go_wp2_with fail
 refine(number_any pf W0 _ HI.out Hpf.out (by exact HE.out.grown HJ2.out.hG (fun k hk=>by injection hk with hk;omega)) sec (wordT la) Hsl.out hsz3).mono ?_;rintro e w3⟨rfl,hg3⟩;have HJ3:=xhd (HJ2.out.call0 hg3);clear hg3 HJ2;rw[hN];obtain⟨HP1,HN⟩:=xh2 hP1 hN;clear hP1 hN
 unfold numRet numV;have hc9:w.heap.size+1+1<w3.heap.size:=HJ3.out.hA.lt;have HJ4:=xhd (HJ3.out.call0 (gr_alloc (xgr w3 none) (NG 2 gn gx)));have HN4:=xhd (heap_alloc_new w3 (NG 2 gn gx));clear HJ3;go_wp2_with fail
 refine(pass_any _ (w.heap.size+1+1) s _ _ 0 deep _ ends (by exact HJ4.out.hA) (by omega)).mono ?_;rintro e w5⟨rfl,⟨p5,hA5⟩,hg5⟩;have HJ5:=xhd (HJ4.out.call hg5 hA5);have HN5:=xhd (keep hg5 HN4.out (by simp;omega));clear HJ4 HN4 hA5 hg5;rw[hP5]at HJ5;go_wp2_with fail
 refine(word_any _ (w.heap.size+1+1) s p5 lc 0 deep oc ends (by exact HJ5.out.hA) (by omega)).mono ?_;rintro e w6⟨rfl,hA6,hg6⟩;have HJ6:=xhd (HJ5.out.call hg6 hA6);have HN6:=xhd (keep hg6 HN5.out (by simp;omega));clear HJ5 HN5 hA6 hg6;have HP5:=xhd hP5;clear hP5
 obtain⟨c0,c1,c2,c3,c4,c5,cf⟩:=HJ6.out.hR.cells;obtain⟨a0,a1,a2,a3,a4,a5,af⟩:=HJ6.out.hA.cells;obtain⟨v0,v1,v2,v3,v4,v5,v6,vf⟩:=cells7 HJ6.out.hV;obtain⟨z0,z1,z2,z3,z4,z5,z6,zf⟩:=zb_cells HJ6.out.hZ;obtain⟨n0,n1,n2,n3,n4,n5,n6,nf⟩:=cells7 HN6.out;have hb3:w.heap.size+1+1<w6.heap.size:=HJ6.out.hA.lt;have hb4:b<w6.heap.size:=by omega
 have hb5:w.heap.size<w6.heap.size:=by omega
 have hb6:w.heap.size+1<w6.heap.size:=by omega
 have hn1:¬w.heap.size+1=b:=by omega
 rw[hO]at a4 HJ6;generalize hwd:(⟨(wordT lc).toArray⟩:ByteArray)=wd;have hwl:wd.data.toList=wordT lc:=by rw[←hwd]
 obtain⟨Hwd,Hwl⟩:=xh2 hwd hwl;clear hwd hwl
 rw[hW]at Hwl;obtain⟨HW,HO⟩:=xh2 hW hO;clear hW hO
 obtain⟨hlt0,hc0,hd0,hr0,hr1⟩:=at_byte (pre:=[]) (by simpa using Hwl.out);simp only[List.length_nil]at hlt0 hc0 hd0;have hwe:¬wd.toList=[]:=by rw[ByteArray.toList_eq,Hwl.out];simp
 have hie:wd.toList.isEmpty=false:=by rw[ByteArray.toList_eq,Hwl.out];rfl
 have hw1:wd.toList=[82]:=by rw[ByteArray.toList_eq,Hwl.out,hw]
 have h82:((c.toNat:Int)==82)=true:=by injection hw with e1 e2;rw[e1];rfl
 have Hw:=xhd hw;clear hw
 have hne:wordT la≠[]:=by intro e;have:=HN.out;rw[e]at this;simp[numF,numStrip,numScan]at this
 have hne2:tl≠[]:=by intro e;have:=Hnum.out;rw[e]at this;simp[numF,numStrip,numScan]at this
 obtain⟨d,S,hS⟩:=List.exists_cons_of_ne_nil hne;obtain⟨t0,T,hT⟩:=List.exists_cons_of_ne_nil hne2;have hs2:sec.data.toList=d::S:=Hsl.out.trans hS;have ht2:text.data.toList=t0::T:=Htl.out.trans hT;obtain⟨hlts,hcs,hds,hrs0,hrs1⟩:=at_byte (pre:=[]) (by simpa using hs2);obtain⟨hltt,hct,hdt,hrt0,hrt1⟩:=at_byte (pre:=[]) (by simpa using ht2);simp only[List.length_nil]at hlts hcs hds hltt hct hdt;clear hs2 ht2 hne hne2;have hdg:isDig (d.toNat:Int)=true:=by rw[hS]at hdg';exact hdg'
 have hdt2:isDig (t0.toNat:Int)=false:=by rw[hT]at hdt';exact hdt'
 have hres:=ref_1 (n:=n) (tl:=tl) HP1.out HN.out hst HP5.out HW.out HO.out (.inr (.inr (.inr (.inr hdt'))));obtain⟨HS,HT,Hdg,Hdt⟩:=xh4 hS hT hdg' hdt';clear hS hT hdg' hdt'
 cases odd<;>cases O
 all_goals
  simp only[Bool.false_or,Bool.true_or,Bool.or_false,Bool.or_true,Bool.or_self,headIs,h82]at hres;go_wp2_with (go_at_call 75;first|(refine(digit_eq hdg _).mono ?_;rintro e w'⟨rfl,rfl⟩)|(refine(digit_eq hdt2 _).mono ?_;rintro e w'⟨rfl,rfl⟩))
  have Hres:=xhd hres;clear hres
  refine bodyPost_ret (v:=valOf (.int n) nilS nilS) (by simp[results,Tryz.results64,go_sem,valOf,nilS,pvKind,pvInt,pvGen,pvReal,pvText,z0,z1,z2,z3,z4,z5,z6,hb3,hb4,hb5,hb6,hn1]) rfl ?_;rw[Hres.out];refine⟨rfl,⟨p,(by repeat (first|with_reducible exact HJ6.out.hR|with_reducible apply RdAt.alloc|with_reducible apply RdAt.set4|((with_reducible refine RdAt.setO ?_ ?_ _ _);rotate_left;(first|omega|(simp;omega)))))⟩,(by repeat (first|with_reducible exact HJ6.out.hG|with_reducible apply gr_alloc|with_reducible apply gr_drewN|with_reducible apply gr_drew|with_reducible apply gr_set|((with_reducible refine gr_setM ?_ ?_ _ _);rotate_left;(first|omega|(simp;omega)))))⟩
end Go.Proofs.YtfkecmlmnhbmoaaGreatDoor
