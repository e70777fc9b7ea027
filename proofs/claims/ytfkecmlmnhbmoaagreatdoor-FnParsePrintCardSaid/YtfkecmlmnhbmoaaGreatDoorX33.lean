/- Parts C5 C6 H1 H2 H3 H4 H5 H6 H7 K1 K2. -/
import Derived.Sort.OwnSorted
import Derived.Test.YtfkecmlmnhbmoaaGreatDoorX22
import Derived.Test.YtfkecmlmnhbmoaaGreatDoorX31
import Derived.Test.YtfkecmlmnhbmoaaGreatDoorX32
set_option linter.unusedVariables false
set_option linter.unusedSimpArgs false
set_option maxRecDepth 100000
set_option maxHeartbeats 40000000
namespace Go.Proofs.YtfkecmlmnhbmoaaGreatDoor
open Go Go.RowKit
theorem b5t (pf:By→Nat)(W0:World)(n:Nat)(hn:n≤49)(hV:ValC pf W0 n)(hVB:ValB)(w:World)(b:Nat)(s:ByteArray)(p l:By)(deep:Int)(hd0:0≤deep)(hd1:deep≤49)(odd ends:Bool)(hR:RdAt w b s p l 0 deep odd ends)(hs:s.size≤1000000000)(oa:Bool)(hE:Env W0 w)(hW0:W0.heap.size≤b)(hdn:deep+1=50-n)(c cB:UInt8)(la:By)(hP:a0j false l odd=(c::cB::la,oa))(h40:((c.toNat:Int)==40)=false)(hd:is2 (c::cB::la) 60=true) :
  Calls Tryz.prog 28 #[.pointer (some ⟨b,0,none⟩)] w fun e w'=>a4y w w' b s deep ends e ((a0A (rdV pf n) la.length la oa [] []).map fun r=>(.dict r.1.1 r.1.2,r.2)):=by
 obtain⟨l2,hl2⟩:∃l2,l2=cB::la:=⟨_,rfl⟩;rw[←hl2]at hP hd;obtain⟨Hl2,HE,HV,HVB,Hdn⟩:=xh5 hl2 hE hV hVB hdn;clear hl2 hE hV hVB hdn
 have hbB:=hR.lt;have HR:=xhd hR;clear hR
 have hal:=a0Z w w.heap.size rfl (.cells #[.pointer (some ⟨b,0,none⟩)] 55 (0,0)) (.cells #[.int .i64 0,.int .i64 0,.int .i64 0,.float .f64 0,.string ⟨#[]⟩,.slice none 0 0,.slice none 0 0] 30 (0,0));have hmf:∀(fn:Fn) (first cap:Array Value) (w:World),(Instr.makeFunc fn first cap).run Tryz.prog w=.ok (.func fn first cap) w:=fun _ _ _ _=>rfl
 go_enter_defers Tryz.func28,Tryz.ntmps28
 go_wp2_with fail
 refine(a0y _ b s p l 0 deep odd ends (by exact(HR.out.alloc _).alloc _) (by omega)).mono ?_;rintro e w1⟨rfl,⟨p1,hR1⟩,hg1⟩;have hb1:=keep hg1 hal.1 (by simp;omega);have hb2:=keep hg1 hal.2 (by simp;omega);have hlt1:w.heap.size+1<w1.heap.size:=(xgl hb2);have HG1:=xhd (a0u (a0a (a0a (xgr w (some b)) _) _) hg1);obtain⟨HB1,HB2⟩:=xh2 hb1 hb2;have d0:w1.cell? ⟨w.heap.size,0,none⟩=some (.pointer (some ⟨b,0,none⟩)):=by simp[World.cell?,hb1]
 rw[hP]at hR1;simp only at hR1;obtain⟨c0,c1,c2,c3,c4,c5,cf⟩:=hR1.cells;have hsz1:=hR1.size;have HR1:=xhd hR1;have hnb1:¬w.heap.size=b:=by omega
 have hnb2:¬w.heap.size+1=b:=by omega
 have hp1:p1.length≤s.size:=by omega
 have Hsz1:=xhd hsz1;clear hg1 hal hb1 hb2 hR1 hsz1;go_wp2_with fail
 have hlt:p1.length<s.size:=by have:=Hsz1.out;simp at this;omega
 obtain⟨hk,hget⟩:=HR1.out.head;have hle:¬s.size≤p1.length:=by omega
 have HR2:=xhd (HR1.out.set3 (deep+1));have HG2:=xhd (a0e HG1.out 3 (.int .i64 (deep+1)));have hlt2:w.heap.size+1<(w1.setCell ⟨b,3,none⟩ (.int .i64 (deep+1))).heap.size:=by simp;omega
 have HB3:=xhd ((Below.heap_setCell w1 ⟨b,3,none⟩ (.int .i64 (deep+1)) w.heap.size (by simp;omega)).trans HB1.out);have HB4:=xhd ((Below.heap_setCell w1 ⟨b,3,none⟩ (.int .i64 (deep+1)) (w.heap.size+1) (by simp;omega)).trans HB2.out);obtain⟨w2,hw2⟩:∃w2,w2=w1.setCell ⟨b,3,none⟩ (.int .i64 (deep+1)):=⟨_,rfl⟩;rw[←hw2]at HR2 HG2 HB3 HB4 hlt2⊢;clear hw2 HR1 HG1 HB1 HB2 c0 c1 c2 c3 c4 c5 cf d0 hlt1;obtain⟨c0,c1,c2,c3,c4,c5,cf⟩:=HR2.out.cells;have d0:w2.cell? ⟨w.heap.size,0,none⟩=some (.pointer (some ⟨b,0,none⟩)):=by simp[World.cell?,HB3.out]
 go_quiet ((go_at_call 52;with_reducible first|exact qad _|exact qbd _));go_wp2_with fail
 go_quiet ((go_at_call 52;with_reducible first|exact qad _|exact qbd _));go_wp2_with fail
 refine(a4g _ b s p1 (c::l2) 0 (deep+1) oa ends (by exact HR2.out.drewN _) (by omega) ⟨#[60,60]⟩ (by decide)).mono ?_;rintro e w2'⟨rfl,n2,hw2'⟩;have hpre:(⟨#[60,60]⟩:ByteArray).data.toList.isPrefixOf (c::l2)=is2 (c::l2) 60:=pre2 60 (c::l2);rw[hpre,hd];clear hpre;subst w2';go_wp2_with fail
 refine(b3V pf W0 _ (by exact HE.out.grown (a0b HG2.out _) (fun k hk=>by injection hk with hk;omega)) b s p1 la c cB n (by omega) HV.out HVB.out oa ends (by rw[←Hdn.out,←Hl2.out];exact HR2.out.drewN _) hs hW0).mono ?_;intro e w3 hP3;obtain⟨R,hRe⟩:∃R,R=(a0A (rdV pf n) la.length la oa [] []).map fun r=>(PV.dict r.1.1 r.1.2,r.2):=⟨_,rfl⟩;rw[←hRe,←Hdn.out]at hP3;have HRe:=xhd hRe;clear hRe
 cases R with
 | none =>
  obtain⟨vv,rfl,⟨xk,xn,xg,xx,xt,ko2,kn2,kc2,vo2,vn2,vc2,rfl⟩,⟨p3,l3,o3,bad3,en3,hbad3,hR3⟩,hg3⟩:=hP3;have hz3:=keep hg3 HB4.out (by simp;omega);have hx3:=keep hg3 HB3.out (by simp;omega);have HG3:=xhd (a0u HG2.out (show w2.grownBy w3 (some b) from⟨hg3.os,hg3.tape,hg3.output,hg3.size,hg3.block⟩));have hlt3:w.heap.size+1<w3.heap.size:=(xgl hz3);obtain⟨z0,z1,z2,z3,z4,z5,z6,zf⟩:=a0q hz3;obtain⟨HZ3,HX3,HR3⟩:=xh3 hz3 hx3 hR3;clear hR3
  clear hz3 hx3 hg3 c0 c1 c2 c3 c4 c5 cf d0 HG2 HR2 HB3 HB4;go_wp2_with fail
  refine a1w HX3.out HZ3.out HR3.out HG3.out hbB hd0 (by omega) rfl ?_;intro w' g1 g2 g3 g4;rw[←HRe.out];exact⟨_,rfl,⟨_,_,_,_,_,_,_,_,_,_,_,rfl⟩,⟨p3,l3,o3,bad3,en3,hbad3,g1⟩,g2⟩
 | some q =>
  obtain⟨x,r,o2⟩:=q;obtain⟨ks2,vs2,S2,rfl,hV3,hS3,⟨p3,hR3⟩,hg3⟩:=hP3;obtain⟨⟨ko2,kn2,kc2,hks⟩,⟨vo2,vn2,vc2,hvs⟩⟩:=IsV.slices hV3;subst hks;subst hvs;unfold a0C;obtain⟨HV3,HS3⟩:=xh2 hV3 hS3;clear hV3 hS3
  have hz3:=keep hg3 HB4.out (by simp;omega);have hx3:=keep hg3 HB3.out (by simp;omega);have HG3:=xhd (a0u HG2.out (show w2.grownBy w3 (some b) from⟨hg3.os,hg3.tape,hg3.output,hg3.size,hg3.block⟩));have hlt3:w.heap.size+1<w3.heap.size:=(xgl hz3);obtain⟨z0,z1,z2,z3,z4,z5,z6,zf⟩:=a0q hz3;obtain⟨HZ3,HX3,HR3⟩:=xh3 hz3 hx3 hR3;clear hR3
  clear hz3 hx3 hg3 c0 c1 c2 c3 c4 c5 cf d0 HG2 HR2 HB3 HB4;go_wp2_with fail
  refine a1w HX3.out HZ3.out HR3.out HG3.out hbB hd0 (by omega) rfl ?_;intro w' g1 g2 g3 g4;rw[←HRe.out];refine⟨_,_,S2,rfl,IsV.keep (fun k hk=>⟨hk,g3 k ?_ ?_⟩) _ _ _ HV3.out,fun k hk=>?_,⟨p3,g1⟩,g2⟩
  ·have:=(HS3.out k hk).1
   simp at this;omega
  ·have:=(HS3.out k hk).1
   simp at this;omega
  ·have:=HS3.out k hk
   simp at this;omega
theorem b3w (pf:By→Nat)(W0:World)(hI:Init W0)(hpf:PFC pf W0)(n:Nat)(hV:ValC pf W0 n):ValC pf W0 (n+1):=by
 intro w b s p l odd ends hE hW0 hs hR hn;have hn':n≤49:=by omega
 obtain⟨deep,hdeep⟩:∃deep:Int,deep=50-((n+1:Nat):Int):=⟨_,rfl⟩;rw[←hdeep]at hR⊢;have hd0:0≤deep:=by omega
 have hd1:deep≤49:=by omega
 have hdn:deep+1=50-n:=by omega
 simp only[rdV];obtain⟨la,oa,hP⟩:∃la oa,a0j false l odd=(la,oa):=⟨_,_,rfl⟩;rw[hP]
 cases la with
 | nil=>exact b8d w b s p l deep hd0 hd1 odd ends hR hs oa hP
 | cons c la =>
  simp only;rcases xbt ((c.toNat:Int)==40) with h40|h40
  ·rw[if_pos h40];exact b8c w b s p l deep hd0 hd1 odd ends hR hs c la oa hP h40
  ·rw[if_neg (by rw[h40];decide)]
   rcases xbt (is2 (c::la) 60) with h2|h2
   ·rw[if_pos h2]
    cases la with
    | nil=>simp[is2]at h2
    | cons cB la=>exact b5t pf W0 n hn' hV b5r w b s p l deep hd0 hd1 odd ends hR hs oa hE hW0 hdn c cB la hP h40 h2
   ·rw[if_neg (by rw[h2];decide)]
    rcases xbt ((c.toNat:Int)==60) with h60|h60
    ·rw[if_pos h60];exact b8b w b s p l deep hd0 hd1 odd ends hR hs oa c la hP h40 h2 h60
    ·rw[if_neg (by rw[h60];decide)]
     rcases xbt ((c.toNat:Int)==47) with h47|h47
     ·rw[if_pos h47];exact b5u w b s p l deep hd0 hd1 odd ends hR hs oa c la hP h40 h2 h60 h47
     ·rw[if_neg (by rw[h47];decide)]
      rcases xbt ((c.toNat:Int)==91) with h91|h91
      ·rw[if_pos h91];exact b8a pf W0 n hn' hV w b s p l deep hd0 hd1 odd ends hR hs oa hE hW0 hdn c la hP h40 h2 h60 h47 h91
      ·rw[if_neg (by rw[h91];decide)]
       rcases xbt (a0U (c.toNat:Int)) with hd|hd
       ·rw[if_pos hd];exact b3x w b s p l deep hd0 hd1 odd ends hR hs oa c la hP h40 h2 h60 h47 h91 hd
       ·rw[if_neg (by rw[hd];decide)];exact b8e pf W0 hI hpf w b s p l deep hd0 hd1 odd ends hR hs oa hE hW0 c la hP h40 h2 h60 h47 h91 hd
theorem b0h (pf:By→Nat)(W0:World)(hI:Init W0)(hpf:PFC pf W0):∀n,ValC pf W0 n:=by
 intro n
 induction n with
 | zero =>
  intro w b s p l odd ends hE hW0 hs hR hn;simp only[rdV];exact b5s w b s p l _ (by simp) (by simp) odd ends hR hs
 | succ n ih=>exact b3w pf W0 hI hpf n ih
def b8j (w w':World)(l:By)(e:Ending):Rd PV→Prop
 | some (x,r,false)=>∃(ks vs:Value) (S:Nat→Prop) (p:By),e=.returned (.tuple #[a0C x ks vs,.int .i64 p.length,.int .i64 0])∧l=p++r∧IsV S w' x ks vs∧(∀k,S k→w.heap.size≤k∧k<w'.heap.size)∧w.grownBy w' none
 | _=>∃v k,e=.returned (.tuple #[v,.int .i64 0,.int .i64 k])∧k≠0∧b5G v∧w.grownBy w' none
theorem a8D {w w':World}{b:Nat}(h:w.grownBy w' (some b)){w0:World}(hg:w0.grownBy w none)(hb:w0.heap.size≤b):w0.grownBy w' none :=
 a0g hg h (fun j hj=>by injection hj with hj;omega)
theorem a7p {w:World}{B:Nat}{a0 a1 a2 a3 a4 a5 a6:Value}{e:TypeId}(h:w.heap[B]?=some (.cells #[a0,a1,a2,a3,a4,a5,a6] e (0,0)))(hlt:B<w.heap.size)(v0 v1 v2 v3 v4 v5 v6:Value)(o:Obj):((set7 w B v0 v1 v2 v3 v4 v5 v6).alloc o).drew.heap[B]?=some (.cells #[v0,v1,v2,v3,v4,v5,v6] e (0,0)):=by
 have h2:=a3u h v0 v1 v2 v3 v4 v5 v6;have h3:B<(set7 w B v0 v1 v2 v3 v4 v5 v6).heap.size:=by rw[a1U];exact hlt
 generalize set7 w B v0 v1 v2 v3 v4 v5 v6=w2 at *;exact(Below.heap_alloc w2 o B h3).trans h2
theorem b0a {w:World}{B k:Nat}(hlt:k<w.heap.size)(hk:k≠B)(v0 v1 v2 v3 v4 v5 v6:Value)(o:Obj):((set7 w B v0 v1 v2 v3 v4 v5 v6).alloc o).drew.heap[k]?=w.heap[k]?:=by
 have h2:=a1C w B k v0 v1 v2 v3 v4 v5 v6 hk;have h3:k<(set7 w B v0 v1 v2 v3 v4 v5 v6).heap.size:=by rw[a1U];exact hlt
 generalize set7 w B v0 v1 v2 v3 v4 v5 v6=w2 at *;exact(Below.heap_alloc w2 o k h3).trans h2
theorem b0b (w:World)(B:Nat)(v0 v1 v2 v3 v4 v5 v6:Value)(o:Obj):((set7 w B v0 v1 v2 v3 v4 v5 v6).alloc o).drew.heap.size=w.heap.size+1:=by
 have h2:=a1U w B v0 v1 v2 v3 v4 v5 v6;generalize set7 w B v0 v1 v2 v3 v4 v5 v6=w2 at *
 show (w2.alloc o).heap.size=_
 simp[h2]
theorem a7q {w w1:World}{r:Option Nat}(h:w.grownBy w1 r){B:Nat}(hB:w.heap.size≤B)(v0 v1 v2 v3 v4 v5 v6:Value)(o:Obj):w.grownBy ((set7 w1 B v0 v1 v2 v3 v4 v5 v6).alloc o).drew r :=
 a0d (a0a (a3d h hB v0 v1 v2 v3 v4 v5 v6) o)
theorem b9Q {w:World}{B:Nat}{a0 a1 a2 a3 a4 a5 a6:Value}{e:TypeId}(h:w.heap[B]?=some (.cells #[a0,a1,a2,a3,a4,a5,a6] e (0,0)))(hlt:B<w.heap.size)(v0 v1 v2 v3 v4 v5 v6:Value)(o:Obj):((set7 w B v0 v1 v2 v3 v4 v5 v6).alloc o).heap[B]?=some (.cells #[v0,v1,v2,v3,v4,v5,v6] e (0,0)) :=
 a7p h hlt v0 v1 v2 v3 v4 v5 v6 o
theorem b7L {w w1:World}{r:Option Nat}(h:w.grownBy w1 r){B:Nat}(hB:w.heap.size≤B)(v0 v1 v2 v3 v4 v5 v6:Value)(o:Obj):w.grownBy ((set7 w1 B v0 v1 v2 v3 v4 v5 v6).alloc o) r :=
 a0a (a3d h hB v0 v1 v2 v3 v4 v5 v6) o
theorem a5v {w5:World}{B:Nat}{v0 v1 v2 v3 v4 v5 v6 u3 u4:Value}{tmps:Array Value}{R:Ending→World→Prop}(h2:tmps.getD 2 undef=.pointer (some ⟨B,0,none⟩))(h3:tmps.getD 3 undef=u3)(h4:tmps.getD 4 undef=u4)
  (hz:w5.heap[B]?=some (.cells #[v0,v1,v2,v3,v4,v5,v6] 30 (0,0)))(hR:R (.returned (.tuple #[.agg #[v0,v1,v2,v3,v4,v5,v6],u3,u4])) w5):bodyPost Tryz.prog Tryz.f12 R Exit.ret { tmps:=tmps,defers:=[] } w5:=by
 obtain⟨y0,y1,y2,y3,y4,y5,y6,yf⟩:=a0n hz;simp only[Array.getD_eq_getD_getElem?]at h2 h3 h4;exact bodyPost_ret (v:=.tuple #[.agg #[v0,v1,v2,v3,v4,v5,v6],u3,u4]) (by simp[results,Tryz.results12,go_sem,h2,h3,h4,y0,y1,y2,y3,y4,y5,y6]) rfl hR
theorem a8w (pf:By→Nat)(W0 w:World)(hI:Init W0)(hpf:PFC pf W0)(hE:Env W0 w)(l:By)(hl:l.length≤1000000000) :
  Calls Tryz.prog 12 #[.string (bs l)] w fun e w'=>b8j w w' l e (rdV pf 50 l false):=by
 have hV:=b0h pf W0 hI hpf 50;obtain⟨HE,HV⟩:=xh2 hE hV;clear hE hV
 clear hI hpf;have hR0:RdAt ((w.alloc (.cells #[.int .i64 0,.int .i64 0,.int .i64 0,.float .f64 0,.string ⟨#[]⟩,.slice none 0 0,.slice none 0 0] 30 (0,0))).alloc (.cells #[.string (bs l),.int .i64 0,.int .i64 0,.int .i64 0,.bool false,.bool false] 57 (0,0))) (w.heap.size+1) (bs l) [] l 0 0 false false:=⟨by simp[bs],(a0Z w w.heap.size rfl _ _).2⟩;have hz0:=(a0Z w w.heap.size rfl (.cells #[.int .i64 0,.int .i64 0,.int .i64 0,.float .f64 0,.string ⟨#[]⟩,.slice none 0 0,.slice none 0 0] 30 (0,0)) (.cells #[.string (bs l),.int .i64 0,.int .i64 0,.int .i64 0,.bool false,.bool false] 57 (0,0))).1;have hg0:=a0a (a0a (xgr w none) (.cells #[.int .i64 0,.int .i64 0,.int .i64 0,.float .f64 0,.string ⟨#[]⟩,.slice none 0 0,.slice none 0 0] 30 (0,0))) (.cells #[.string (bs l),.int .i64 0,.int .i64 0,.int .i64 0,.bool false,.bool false] 57 (0,0));obtain⟨HR0,HZ0,HG0⟩:=xh3 hR0 hz0 hg0;clear hR0 hz0 hg0
 go_enter Tryz.func12,Tryz.ntmps12;go_wp2_with fail
 refine(HV.out _ (w.heap.size+1) (bs l) [] l false false (by exact HE.out.grown0 HG0.out) (by have:=HE.out.1;omega) (by rw[a0f];exact hl) (by exact HR0.out) (by omega)).mono ?_;intro e w1 hP;obtain⟨R,hRe⟩:∃R,R=rdV pf 50 l false:=⟨_,rfl⟩;rw[←hRe]at hP;have HRe:=xhd hRe;clear hRe
 cases R with
 | none =>
  obtain⟨vv,rfl,⟨xk,xn,xg,xx,xt,ko2,kn2,kc2,vo2,vn2,vc2,rfl⟩,⟨p3,l3,o3,bad3,en3,hbad3,hR3⟩,hg3⟩:=hP;have hz3:=keep hg3 HZ0.out (by simp);have hG3:=a8D hg3 HG0.out (by omega);obtain⟨c0,c1,c2,c3,c4,c5,cf⟩:=hR3.cells;obtain⟨z0,z1,z2,z3,z4,z5,z6,zf⟩:=a0q hz3;have hlt3:w.heap.size+1<w1.heap.size:=hR3.lt;have hlt2:w.heap.size<w1.heap.size:=by omega
  obtain⟨HR3,HZ3,HG3,Hg3⟩:=xh4 hR3 hz3 hG3 hg3;clear hR3 hz3 hG3 hg3
  clear HR0 HZ0 HG0;have hbd:(bad3 != 0)=true:=by simpa using hbad3
  go_wp2_with fail
  go_region
  go_wp2_with fail
  refine a5v (B:=w.heap.size) (u3:=.int .i64 (0)) (u4:=.int .i64 (bad3)) (v0:=.int .i64 0) (v1:=.int .i64 0) (v2:=.int .i64 0) (v3:=.float .f64 0) (v4:=.string ⟨#[]⟩) (v5:=.slice none 0 0) (v6:=.slice none 0 0) (w5:=((set7 w1 w.heap.size _ _ _ _ _ _ _).alloc _).drew) ?_ ?_ ?_ ?_ ?_
  ·rfl
  ·rfl
  ·rfl
  ·exact a7p HZ3.out hlt2 _ _ _ _ _ _ _ _
  rw[←HRe.out];exact⟨_,_,rfl,hbad3,⟨_,_,_,_,_,_,_,_,_,_,_,rfl⟩,a7q HG3.out (Nat.le_refl _) _ _ _ _ _ _ _ _⟩
 | some q =>
  obtain⟨x,r,o2⟩:=q;obtain⟨ks2,vs2,S2,rfl,hV3,hS3,⟨p3,hR3⟩,hg3⟩:=hP;obtain⟨⟨ko2,kn2,kc2,hks⟩,⟨vo2,vn2,vc2,hvs⟩⟩:=IsV.slices hV3;subst hks;subst hvs;unfold a0C;obtain⟨HV3,HS3⟩:=xh2 hV3 hS3;clear hV3 hS3
  have hz3:=keep hg3 HZ0.out (by simp);have hG3:=a8D hg3 HG0.out (by omega);obtain⟨c0,c1,c2,c3,c4,c5,cf⟩:=hR3.cells;obtain⟨z0,z1,z2,z3,z4,z5,z6,zf⟩:=a0q hz3;have hlt3:w.heap.size+1<w1.heap.size:=hR3.lt;have hlt2:w.heap.size<w1.heap.size:=by omega
  obtain⟨HR3,HZ3,HG3,Hg3⟩:=xh4 hR3 hz3 hG3 hg3;clear hR3 hz3 hG3 hg3
  clear HR0 HZ0 HG0
  cases o2
  ·go_wp2_with fail
   go_region
   go_wp2_with fail
   refine a5v (B:=w.heap.size) (u3:=.int .i64 (p3.length)) (u4:=.int .i64 (0)) (v0:=.int .i64 (a0z x)) (v1:=.int .i64 (a1d x)) (v2:=.int .i64 (a1c x)) (v3:=.float .f64 (a0H x)) (v4:=.string ⟨(a0I x).toArray⟩) (v5:=.slice ko2 kn2 kc2) (v6:=.slice vo2 vn2 vc2) (w5:=((set7 w1 w.heap.size _ _ _ _ _ _ _).alloc _).drew) ?_ ?_ ?_ ?_ ?_
   ·rfl
   ·rfl
   ·rfl
   ·exact a7p HZ3.out hlt2 _ _ _ _ _ _ _ _
   rw[←HRe.out];refine⟨.slice ko2 kn2 kc2,.slice vo2 vn2 vc2,S2,p3,rfl,?_,IsV.keep (fun k hk=>⟨hk,?_⟩) _ _ _ HV3.out,fun k hk=>?_,a7q HG3.out (Nat.le_refl _) _ _ _ _ _ _ _ _⟩
   ·have:=HR3.out.1;rw[a1D]at this;exact this
   ·have:=HS3.out k hk
    simp at this;exact b0a (by omega) (by omega) _ _ _ _ _ _ _ _
   ·have:=HS3.out k hk
    simp at this;exact⟨by omega,by rw[b0b];omega⟩
  ·go_wp2_with fail
   refine a5v (B:=w.heap.size) (u3:=.int .i64 (0)) (u4:=.int .i64 (2)) (v0:=.int .i64 0) (v1:=.int .i64 0) (v2:=.int .i64 0) (v3:=.float .f64 0) (v4:=.string ⟨#[]⟩) (v5:=.slice none 0 0) (v6:=.slice none 0 0) (w5:=(set7 w1 w.heap.size _ _ _ _ _ _ _).alloc _) ?_ ?_ ?_ ?_ ?_
   ·rfl
   ·rfl
   ·rfl
   ·exact b9Q HZ3.out hlt2 _ _ _ _ _ _ _ _
   rw[←HRe.out];exact⟨_,_,rfl,by decide,⟨_,_,_,_,_,_,_,_,_,_,_,rfl⟩,b7L HG3.out (Nat.le_refl _) _ _ _ _ _ _ _ _⟩
open Go.Maps
def kO:PO→Int
 | .null=>0 | .bool _=>1 | .int _=>2 | .real _=>3 | .lit _=>4 | .hexl _=>5 | .name _=>6 | .arr _=>7 | .dict _ _=>8 | .ref _ _=>9
def iO:PO→Int
 | .bool b=>if b then 1 else 0
 | .int n=>n
 | .ref n _=>n
 | _=>0
def gO:PO→Int
 | .ref _ g=>g
 | _=>0
def rO:PO→Nat
 | .real x=>x
 | _=>0
def tO:PO→By
 | .lit s=>s
 | .hexl s=>s
 | .name s=>s
 | _=>[]
def o7 (p:PO)(ks vs:Value):List Value:=[.int .i64 (kO p),.int .i64 (iO p),.int .i64 (gO p),.float .f64 (rO p),.string (bs (tO p)),ks,vs]
def objV (p:PO)(ks vs:Value):Value:=.agg #[.int .i64 (kO p),.int .i64 (iO p),.int .i64 (gO p),.float .f64 (rO p),.string (bs (tO p)),ks,vs]
mutual
def IsO (S:Nat→Prop)(w:World):PO→Value→Value→Prop
 | .arr kids,ks,vs=>kids.length≤1000000∧SlAt S w ks 1 0 []∧∃cells,SlAt S w vs 7 kids.length cells∧IsOs S w kids cells
 | .dict keys kids,ks,vs=>a3O keys∧keys.length=kids.length∧SlAt S w ks 1 keys.length (a3i keys)∧∃cells,SlAt S w vs 7 kids.length cells∧IsOs S w kids cells
 | p,ks,vs=>(tO p).length≤319999∧SlAt S w ks 1 0 []∧SlAt S w vs 7 0 []
def IsOs (S:Nat→Prop)(w:World):List PO→List Value→Prop
 | [],cells=>cells=[]
 | x::xs,cells=>∃ks vs rest,cells=o7 x ks vs++rest∧IsO S w x ks vs∧IsOs S w xs rest
end
mutual
theorem IsO.keep {S S':Nat→Prop}{w w':World}(hS:∀k,S k→S' k∧w'.heap[k]?=w.heap[k]?):∀(x:PO) (ks vs:Value),IsO S w x ks vs→IsO S' w' x ks vs
 | .arr kids,ks,vs,h=>by
  simp only[IsO]at h⊢;obtain⟨h0,h1,cells,h2,h3⟩:=h;exact⟨h0,h1.keep hS,cells,h2.keep hS,IsOs.keep hS kids cells h3⟩
 | .dict keys kids,ks,vs,h=>by
  simp only[IsO]at h⊢;obtain⟨h0,h00,h1,cells,h2,h3⟩:=h;exact⟨h0,h00,h1.keep hS,cells,h2.keep hS,IsOs.keep hS kids cells h3⟩
 | .null,ks,vs,h=>by simp only[IsO]at h⊢;exact⟨h.1,h.2.1.keep hS,h.2.2.keep hS⟩
 | .bool _,ks,vs,h=>by simp only[IsO]at h⊢;exact⟨h.1,h.2.1.keep hS,h.2.2.keep hS⟩
 | .int _,ks,vs,h=>by simp only[IsO]at h⊢;exact⟨h.1,h.2.1.keep hS,h.2.2.keep hS⟩
 | .real _,ks,vs,h=>by simp only[IsO]at h⊢;exact⟨h.1,h.2.1.keep hS,h.2.2.keep hS⟩
 | .lit _,ks,vs,h=>by simp only[IsO]at h⊢;exact⟨h.1,h.2.1.keep hS,h.2.2.keep hS⟩
 | .hexl _,ks,vs,h=>by simp only[IsO]at h⊢;exact⟨h.1,h.2.1.keep hS,h.2.2.keep hS⟩
 | .name _,ks,vs,h=>by simp only[IsO]at h⊢;exact⟨h.1,h.2.1.keep hS,h.2.2.keep hS⟩
 | .ref _ _,ks,vs,h=>by simp only[IsO]at h⊢;exact⟨h.1,h.2.1.keep hS,h.2.2.keep hS⟩
theorem IsOs.keep {S S':Nat→Prop}{w w':World}(hS:∀k,S k→S' k∧w'.heap[k]?=w.heap[k]?):∀(xs:List PO) (cells:List Value),IsOs S w xs cells→IsOs S' w' xs cells
 | [],cells,h=>by simp only[IsOs]at h⊢;exact h
 | x::xs,cells,h=>by
  simp only[IsOs]at h⊢;obtain⟨ks,vs,rest,h1,h2,h3⟩:=h;exact⟨ks,vs,rest,h1,IsO.keep hS x ks vs h2,IsOs.keep hS xs rest h3⟩
end
theorem IsOs.append {S:Nat→Prop}{w:World}{ys:List PO}{d:List Value}(hy:IsOs S w ys d):∀(xs:List PO) (c:List Value),IsOs S w xs c→IsOs S w (xs++ys) (c++d)
 | [],c,h=>by simp only[IsOs]at h;subst h;simpa using hy
 | x::xs,c,h=>by
  simp only[IsOs,List.cons_append]at h⊢;obtain⟨ks,vs,rest,h1,h2,h3⟩:=h;exact⟨ks,vs,rest++d,by rw[h1,List.append_assoc],h2,IsOs.append hy xs rest h3⟩
theorem IsOs.one {S:Nat→Prop}{w:World}{x:PO}{ks vs:Value}(h:IsO S w x ks vs):IsOs S w [x] (o7 x ks vs):=by
 simp only[IsOs];exact⟨ks,vs,[],by simp,h,rfl⟩
theorem IsO.slices {S:Nat→Prop}{w:World}{x:PO}{ks vs:Value}(h:IsO S w x ks vs):(∃o n c,ks=.slice o n c)∧∃o n c,vs=.slice o n c:=by
 cases x<;>simp only[IsO]at h
 case arr =>
  obtain⟨_,⟨_,o,c,rfl,_⟩,cells,⟨_,o2,c2,rfl,_⟩,_⟩:=h;exact⟨⟨_,_,_,rfl⟩,_,_,_,rfl⟩
 case dict =>
  obtain⟨_,_,⟨_,o,c,rfl,_⟩,cells,⟨_,o2,c2,rfl,_⟩,_⟩:=h;exact⟨⟨_,_,_,rfl⟩,_,_,_,rfl⟩
 all_goals
  obtain⟨_,⟨_,o,c,rfl,_⟩,⟨_,o2,c2,rfl,_⟩⟩:=h;exact⟨⟨_,_,_,rfl⟩,_,_,_,rfl⟩
def a0W (w w':World)(p:PO)(e:Ending):Prop:=∃ks vs S,e=.returned (.tuple #[objV p ks vs,.bool true])∧IsO S w' p ks vs∧(∀k,S k→w.heap.size≤k∧k<w'.heap.size)∧w.grownBy w' none
theorem a2r {w4:World}{B:Nat}{v0 v1 v2 v3 v4 v5 v6 u3:Value}{tmps:Array Value}{R:Ending→World→Prop}(h2:tmps.getD 2 undef=.pointer (some ⟨B,0,none⟩))(h3:tmps.getD 3 undef=u3)
  (hz:w4.heap[B]?=some (.cells #[v0,v1,v2,v3,v4,v5,v6] 26 (0,0)))(hR:R (.returned (.tuple #[.agg #[v0,v1,v2,v3,v4,v5,v6],u3])) w4):bodyPost Tryz.prog Tryz.f55 R Exit.ret { tmps:=tmps,defers:=[] } w4:=by
 obtain⟨y0,y1,y2,y3,y4,y5,y6,yf⟩:=a0n hz;simp only[Array.getD_eq_getD_getElem?]at h2 h3;exact bodyPost_ret (v:=.tuple #[.agg #[v0,v1,v2,v3,v4,v5,v6],u3]) (by simp[results,Tryz.results55,go_sem,h2,h3,y0,y1,y2,y3,y4,y5,y6]) rfl hR
theorem a0W.leaf {w:World}{p:PO}{o:Obj}{e:Ending}(he:e=.returned (.tuple #[objV p nilS nilS,.bool true]))(h:∀S w,IsO S w p nilS nilS):a0W w (w.alloc o) p e :=
 ⟨nilS,nilS,fun _=>False,he,h _ _,fun k hk=>hk.elim,a0a (xgr w none) _⟩
@[go_sem] theorem c0c (v:Value)(w:World):(Instr.typeAssert (.iface 66 v) 50 66 true).run Tryz.prog w=.ok (.tuple #[v,.bool true]) w:=by kernel_rfl
@[go_sem] theorem c0k (v:Value)(w:World):(Instr.typeAssert (.iface 67 v) 50 67 true).run Tryz.prog w=.ok (.tuple #[v,.bool true]) w:=by kernel_rfl
@[go_sem] theorem c0j (v:Value)(w:World):(Instr.typeAssert (.iface 67 v) 50 66 true).run Tryz.prog w=.ok (.tuple #[.bool false,.bool false]) w:=by kernel_rfl
@[go_sem] theorem c0r (v:Value)(w:World):(Instr.typeAssert (.iface 68 v) 50 68 true).run Tryz.prog w=.ok (.tuple #[v,.bool true]) w:=by kernel_rfl
@[go_sem] theorem c0p (v:Value)(w:World):(Instr.typeAssert (.iface 68 v) 50 66 true).run Tryz.prog w=.ok (.tuple #[.bool false,.bool false]) w:=by kernel_rfl
@[go_sem] theorem c0q (v:Value)(w:World):(Instr.typeAssert (.iface 68 v) 50 67 true).run Tryz.prog w=.ok (.tuple #[.int .i64 0,.bool false]) w:=by kernel_rfl
@[go_sem] theorem c0z (v:Value)(w:World):(Instr.typeAssert (.iface 69 v) 50 69 true).run Tryz.prog w=.ok (.tuple #[v,.bool true]) w:=by kernel_rfl
@[go_sem] theorem c0w (v:Value)(w:World):(Instr.typeAssert (.iface 69 v) 50 66 true).run Tryz.prog w=.ok (.tuple #[.bool false,.bool false]) w:=by kernel_rfl
@[go_sem] theorem c0x (v:Value)(w:World):(Instr.typeAssert (.iface 69 v) 50 67 true).run Tryz.prog w=.ok (.tuple #[.int .i64 0,.bool false]) w:=by kernel_rfl
@[go_sem] theorem c0y (v:Value)(w:World):(Instr.typeAssert (.iface 69 v) 50 68 true).run Tryz.prog w=.ok (.tuple #[.float .f64 0,.bool false]) w:=by kernel_rfl
@[go_sem] theorem c0I (v:Value)(w:World):(Instr.typeAssert (.iface 70 v) 50 70 true).run Tryz.prog w=.ok (.tuple #[v,.bool true]) w:=by kernel_rfl
@[go_sem] theorem c0E (v:Value)(w:World):(Instr.typeAssert (.iface 70 v) 50 66 true).run Tryz.prog w=.ok (.tuple #[.bool false,.bool false]) w:=by kernel_rfl
@[go_sem] theorem c0F (v:Value)(w:World):(Instr.typeAssert (.iface 70 v) 50 67 true).run Tryz.prog w=.ok (.tuple #[.int .i64 0,.bool false]) w:=by kernel_rfl
@[go_sem] theorem c0G (v:Value)(w:World):(Instr.typeAssert (.iface 70 v) 50 68 true).run Tryz.prog w=.ok (.tuple #[.float .f64 0,.bool false]) w:=by kernel_rfl
@[go_sem] theorem c0H (v:Value)(w:World):(Instr.typeAssert (.iface 70 v) 50 69 true).run Tryz.prog w=.ok (.tuple #[.string ⟨#[]⟩,.bool false]) w:=by kernel_rfl
@[go_sem] theorem c0S (v:Value)(w:World):(Instr.typeAssert (.iface 71 v) 50 71 true).run Tryz.prog w=.ok (.tuple #[v,.bool true]) w:=by kernel_rfl
@[go_sem] theorem c0N (v:Value)(w:World):(Instr.typeAssert (.iface 71 v) 50 66 true).run Tryz.prog w=.ok (.tuple #[.bool false,.bool false]) w:=by kernel_rfl
@[go_sem] theorem c0O (v:Value)(w:World):(Instr.typeAssert (.iface 71 v) 50 67 true).run Tryz.prog w=.ok (.tuple #[.int .i64 0,.bool false]) w:=by kernel_rfl
@[go_sem] theorem c0P (v:Value)(w:World):(Instr.typeAssert (.iface 71 v) 50 68 true).run Tryz.prog w=.ok (.tuple #[.float .f64 0,.bool false]) w:=by kernel_rfl
@[go_sem] theorem c0Q (v:Value)(w:World):(Instr.typeAssert (.iface 71 v) 50 69 true).run Tryz.prog w=.ok (.tuple #[.string ⟨#[]⟩,.bool false]) w:=by kernel_rfl
@[go_sem] theorem c0R (v:Value)(w:World):(Instr.typeAssert (.iface 71 v) 50 70 true).run Tryz.prog w=.ok (.tuple #[.string ⟨#[]⟩,.bool false]) w:=by kernel_rfl
@[go_sem] theorem c1c (v:Value)(w:World):(Instr.typeAssert (.iface 73 v) 50 73 true).run Tryz.prog w=.ok (.tuple #[v,.bool true]) w:=by kernel_rfl
@[go_sem] theorem c0W (v:Value)(w:World):(Instr.typeAssert (.iface 73 v) 50 66 true).run Tryz.prog w=.ok (.tuple #[.bool false,.bool false]) w:=by kernel_rfl
@[go_sem] theorem c0X (v:Value)(w:World):(Instr.typeAssert (.iface 73 v) 50 67 true).run Tryz.prog w=.ok (.tuple #[.int .i64 0,.bool false]) w:=by kernel_rfl
@[go_sem] theorem c0Y (v:Value)(w:World):(Instr.typeAssert (.iface 73 v) 50 68 true).run Tryz.prog w=.ok (.tuple #[.float .f64 0,.bool false]) w:=by kernel_rfl
@[go_sem] theorem c0Z (v:Value)(w:World):(Instr.typeAssert (.iface 73 v) 50 69 true).run Tryz.prog w=.ok (.tuple #[.string ⟨#[]⟩,.bool false]) w:=by kernel_rfl
@[go_sem] theorem c1a (v:Value)(w:World):(Instr.typeAssert (.iface 73 v) 50 70 true).run Tryz.prog w=.ok (.tuple #[.string ⟨#[]⟩,.bool false]) w:=by kernel_rfl
@[go_sem] theorem c1b (v:Value)(w:World):(Instr.typeAssert (.iface 73 v) 50 71 true).run Tryz.prog w=.ok (.tuple #[.string ⟨#[]⟩,.bool false]) w:=by kernel_rfl
@[go_sem] theorem c1m (v:Value)(w:World):(Instr.typeAssert (.iface 77 v) 50 77 true).run Tryz.prog w=.ok (.tuple #[v,.bool true]) w:=by kernel_rfl
@[go_sem] theorem c1f (v:Value)(w:World):(Instr.typeAssert (.iface 77 v) 50 66 true).run Tryz.prog w=.ok (.tuple #[.bool false,.bool false]) w:=by kernel_rfl
@[go_sem] theorem c1g (v:Value)(w:World):(Instr.typeAssert (.iface 77 v) 50 67 true).run Tryz.prog w=.ok (.tuple #[.int .i64 0,.bool false]) w:=by kernel_rfl
@[go_sem] theorem c1h (v:Value)(w:World):(Instr.typeAssert (.iface 77 v) 50 68 true).run Tryz.prog w=.ok (.tuple #[.float .f64 0,.bool false]) w:=by kernel_rfl
@[go_sem] theorem c1i (v:Value)(w:World):(Instr.typeAssert (.iface 77 v) 50 69 true).run Tryz.prog w=.ok (.tuple #[.string ⟨#[]⟩,.bool false]) w:=by kernel_rfl
@[go_sem] theorem c1j (v:Value)(w:World):(Instr.typeAssert (.iface 77 v) 50 70 true).run Tryz.prog w=.ok (.tuple #[.string ⟨#[]⟩,.bool false]) w:=by kernel_rfl
@[go_sem] theorem c1k (v:Value)(w:World):(Instr.typeAssert (.iface 77 v) 50 71 true).run Tryz.prog w=.ok (.tuple #[.string ⟨#[]⟩,.bool false]) w:=by kernel_rfl
@[go_sem] theorem c1l (v:Value)(w:World):(Instr.typeAssert (.iface 77 v) 50 73 true).run Tryz.prog w=.ok (.tuple #[.agg #[.int .i64 0,.int .i64 0],.bool false]) w:=by kernel_rfl
@[go_sem] theorem c1w (v:Value)(w:World):(Instr.typeAssert (.iface 81 v) 50 81 true).run Tryz.prog w=.ok (.tuple #[v,.bool true]) w:=by kernel_rfl
@[go_sem] theorem c1o (v:Value)(w:World):(Instr.typeAssert (.iface 81 v) 50 66 true).run Tryz.prog w=.ok (.tuple #[.bool false,.bool false]) w:=by kernel_rfl
@[go_sem] theorem c1p (v:Value)(w:World):(Instr.typeAssert (.iface 81 v) 50 67 true).run Tryz.prog w=.ok (.tuple #[.int .i64 0,.bool false]) w:=by kernel_rfl
@[go_sem] theorem c1q (v:Value)(w:World):(Instr.typeAssert (.iface 81 v) 50 68 true).run Tryz.prog w=.ok (.tuple #[.float .f64 0,.bool false]) w:=by kernel_rfl
@[go_sem] theorem c1r (v:Value)(w:World):(Instr.typeAssert (.iface 81 v) 50 69 true).run Tryz.prog w=.ok (.tuple #[.string ⟨#[]⟩,.bool false]) w:=by kernel_rfl
@[go_sem] theorem c1s (v:Value)(w:World):(Instr.typeAssert (.iface 81 v) 50 70 true).run Tryz.prog w=.ok (.tuple #[.string ⟨#[]⟩,.bool false]) w:=by kernel_rfl
@[go_sem] theorem c1t (v:Value)(w:World):(Instr.typeAssert (.iface 81 v) 50 71 true).run Tryz.prog w=.ok (.tuple #[.string ⟨#[]⟩,.bool false]) w:=by kernel_rfl
@[go_sem] theorem c1u (v:Value)(w:World):(Instr.typeAssert (.iface 81 v) 50 73 true).run Tryz.prog w=.ok (.tuple #[.agg #[.int .i64 0,.int .i64 0],.bool false]) w:=by kernel_rfl
@[go_sem] theorem c1v (v:Value)(w:World):(Instr.typeAssert (.iface 81 v) 50 77 true).run Tryz.prog w=.ok (.tuple #[.slice none 0 0,.bool false]) w:=by kernel_rfl
theorem b5m (n:Int)(w:World):Calls Tryz.prog 55 #[.iface 67 (.int .i64 n)] w fun e w'=>a0W w w' (.int n) e:=by
 go_enter Tryz.func55,Tryz.ntmps55;go_wp2_with fail
 refine a2r (v0:=_) (v1:=_) (v2:=_) (v3:=_) (v4:=_) (v5:=_) (v6:=_) rfl rfl (heap_alloc_new w _) ?_;exact a0W.leaf rfl (fun _ _=>by simp only[IsO];exact⟨by simp[tO],SlAt.nil _ _ _,SlAt.nil _ _ _⟩)
theorem b3n (w:World):Calls Tryz.prog 55 #[.nilIface] w fun e w'=>a0W w w' (.null) e:=by
 go_enter Tryz.func55,Tryz.ntmps55;go_wp2_with fail
 refine a2r (v0:=_) (v1:=_) (v2:=_) (v3:=_) (v4:=_) (v5:=_) (v6:=_) rfl rfl (heap_alloc_new w _) ?_;exact a0W.leaf rfl (fun _ _=>by simp only[IsO];exact⟨by simp[tO],SlAt.nil _ _ _,SlAt.nil _ _ _⟩)
theorem b0S (w:World):Calls Tryz.prog 55 #[.iface 66 (.bool true)] w fun e w'=>a0W w w' (.bool true) e:=by
 go_enter Tryz.func55,Tryz.ntmps55;go_wp2_with fail
 refine a2r (v0:=_) (v1:=_) (v2:=_) (v3:=_) (v4:=_) (v5:=_) (v6:=_) rfl rfl (heap_alloc_new w _) ?_;exact a0W.leaf rfl (fun _ _=>by simp only[IsO];exact⟨by simp[tO],SlAt.nil _ _ _,SlAt.nil _ _ _⟩)
theorem a9j (w:World):Calls Tryz.prog 55 #[.iface 66 (.bool false)] w fun e w'=>a0W w w' (.bool false) e:=by
 go_enter Tryz.func55,Tryz.ntmps55;go_wp2_with fail
 refine a2r (v0:=_) (v1:=_) (v2:=_) (v3:=_) (v4:=_) (v5:=_) (v6:=_) rfl rfl (heap_alloc_new w _) ?_;exact a0W.leaf rfl (fun _ _=>by simp only[IsO];exact⟨by simp[tO],SlAt.nil _ _ _,SlAt.nil _ _ _⟩)
theorem b3o (x:Nat)(w:World):Calls Tryz.prog 55 #[.iface 68 (.float .f64 x)] w fun e w'=>a0W w w' (.real x) e:=by
 go_enter Tryz.func55,Tryz.ntmps55;go_wp2_with fail
 refine a2r (v0:=_) (v1:=_) (v2:=_) (v3:=_) (v4:=_) (v5:=_) (v6:=_) rfl rfl (heap_alloc_new w _) ?_;exact a0W.leaf rfl (fun _ _=>by simp only[IsO];exact⟨by simp[tO],SlAt.nil _ _ _,SlAt.nil _ _ _⟩)
theorem b5n (s:By)(hs:s.length≤319999)(w:World):Calls Tryz.prog 55 #[.iface 69 (.string (bs s))] w fun e w'=>a0W w w' (.lit s) e:=by
 go_enter Tryz.func55,Tryz.ntmps55;go_wp2_with fail
 refine a2r (v0:=_) (v1:=_) (v2:=_) (v3:=_) (v4:=_) (v5:=_) (v6:=_) rfl rfl (heap_alloc_new w _) ?_;exact a0W.leaf rfl (fun _ _=>by simp only[IsO];exact⟨hs,SlAt.nil _ _ _,SlAt.nil _ _ _⟩)
theorem b3l (s:By)(hs:s.length≤319999)(w:World):Calls Tryz.prog 55 #[.iface 70 (.string (bs s))] w fun e w'=>a0W w w' (.hexl s) e:=by
 go_enter Tryz.func55,Tryz.ntmps55;go_wp2_with fail
 refine a2r (v0:=_) (v1:=_) (v2:=_) (v3:=_) (v4:=_) (v5:=_) (v6:=_) rfl rfl (heap_alloc_new w _) ?_;exact a0W.leaf rfl (fun _ _=>by simp only[IsO];exact⟨hs,SlAt.nil _ _ _,SlAt.nil _ _ _⟩)
theorem b3m (s:By)(hs:s.length≤319999)(w:World):Calls Tryz.prog 55 #[.iface 71 (.string (bs s))] w fun e w'=>a0W w w' (.name s) e:=by
 go_enter Tryz.func55,Tryz.ntmps55;go_wp2_with fail
 refine a2r (v0:=_) (v1:=_) (v2:=_) (v3:=_) (v4:=_) (v5:=_) (v6:=_) rfl rfl (heap_alloc_new w _) ?_;exact a0W.leaf rfl (fun _ _=>by simp only[IsO];exact⟨hs,SlAt.nil _ _ _,SlAt.nil _ _ _⟩)
theorem b5o (n g:Int)(w:World):Calls Tryz.prog 55 #[.iface 73 (.agg #[.int .i64 n,.int .i64 g])] w fun e w'=>a0W w w' (.ref n g) e:=by
 go_enter Tryz.func55,Tryz.ntmps55;go_wp2_with fail
 have ha:=a0Z w w.heap.size rfl (Obj.cells #[.int .i64 9,.int .i64 n,.int .i64 g,.float .f64 0,.string ⟨#[]⟩,.slice none 0 0,.slice none 0 0] 26) (Obj.cells #[.int .i64 n,.int .i64 g] 73);refine a2r (v0:=_) (v1:=_) (v2:=_) (v3:=_) (v4:=_) (v5:=_) (v6:=_) rfl rfl ha.1 ?_;exact⟨nilS,nilS,fun _=>False,rfl,by simp only[IsO];exact⟨by simp[tO],SlAt.nil _ _ _,SlAt.nil _ _ _⟩,fun k hk=>hk.elim,a0a (a0a (xgr w none) _) _⟩
theorem Tryz.info26:(Tryz.prog.info? 26).map (fun i=>(i.zero,i.size,i.bytes))=some (some (.agg #[.int .i64 0,.int .i64 0,.int .i64 0,.float .f64 0,.string ⟨#[]⟩,.slice none 0 0,.slice none 0 0]),7,96):=by kernel_rfl
def b6o (nn:Nat→Prop)(n:Nat):Prop:=∀(p:PO) (x:PV) (S:Nat→Prop) (w:World) (v:Value),Corr nn n p x→ObjO S w p v→(∀k,S k→k<w.heap.size)→Calls Tryz.prog 55 #[v] w fun e w'=>a0W w w' (a1f p) e
structure TlJ (w wr:World)(i:Nat)(ps:List PO)(sl:Value)(cells:List Value)(S:Nat→Prop):Prop where
 row:wr.ownsRow w.heap.size 26 7 sl i cells
 objs:IsOs S wr ((a1o ps).take i) cells
 bnd:∀k,S k→w.heap.size≤k∧k<wr.heap.size∧sl.ownBlock≠some k
 grow:w.grownBy wr none
theorem b3p (nn:Nat→Prop)(n:Nat)(hT:b6o nn n)(ps:List PO)(xs:List PV)(S:Nat→Prop)(w:World)(sl:Value)(cells:List Value)(hC:Corr nn (n+1) (.arr ps) (.arr xs))(hl:ps.length≤1000000)(hsl:SlAt S w sl 1 ps.length cells)(hO:a0J S w ps cells)(hS:∀k,S k→k<w.heap.size) :
  Calls Tryz.prog 65 #[sl] w fun e w'=>∃vs cs S',e=.returned (.tuple #[vs,.bool true])∧SlAt S' w' vs 7 ps.length cs∧IsOs S' w' (a1o ps) cs∧(∀k,S' k→w.heap.size≤k∧k<w'.heap.size)∧w.grownBy w' none:=by
 obtain⟨hcl,o,cap,rfl,h1,h2,h3⟩:=hsl;obtain⟨ti,hti,htz0,htz1,htz2⟩:=info_parts Tryz.info26;obtain⟨HO,HC,HT,H3,Hcl,HS⟩:=xh6 hO hC hT h3 hcl hS;clear hO hC hT h3 hcl hS;obtain⟨N,hN⟩:∃N,N=ps.length:=⟨_,rfl⟩;rw[←hN]at hl h1 Hcl⊢;have HN:=xhd hN;clear hN;go_enter Tryz.func65,Tryz.ntmps65;go_wp2_with fail
 go_loopg [4,11] N (fun g t4 t11 wr=>∃i so sn sc cells2 S2,t11=.int .i64 (i:Nat)∧g=N-i∧i≤N∧t4=.slice so sn sc∧TlJ w wr i ps (.slice so sn sc) cells2 S2)
 case atStart =>
  exact⟨0,none,0,0,[],fun _=>False,rfl,rfl,Nat.zero_le _,rfl,World.ownsRow_nil _ _ _ _,by simp[IsOs],fun k hk=>hk.elim,xgr _ _⟩
 case round =>
  obtain⟨i,so,sn,sc,cells2,S2,rfl,hg,hi,rfl,hJ⟩:=hrel;obtain⟨HJ,Hg⟩:=xh2 hJ hg;clear hJ hg
  by_cases hiN:i<N
  ·rcases H3.out with h0|⟨b0,i0,rfl,hSb,hcells⟩
   ·have:=HN.out;omega
   obtain⟨pi,hpi⟩:∃p,ps[i]?=some p:=⟨_,List.getElem?_eq_getElem (by rw[←HN.out];exact hiN)⟩;obtain⟨vi,hvi,hOi⟩:=a0J.get ps cells HO.out i pi hpi
   obtain⟨xi,hxi,hCi⟩:∃x,xs[i]?=some x∧Corr nn n pi x:=by
    have h:=HC.out;simp only[Corr]at h;have hlt:i<xs.length:=by have:=h.1;have:=HN.out;omega
    exact⟨_,List.getElem?_eq_getElem hlt,h.2 i pi _ hpi (List.getElem?_eq_getElem hlt)⟩
   have hcell:wr.cell? ⟨b0,i0+i,none⟩=some vi:=(World.cell?_of_block (HJ.out.grow.block b0 (HS.out b0 hSb) (by simp))).trans (hcells i vi hvi);have hcall:=HT.out pi xi S wr vi hCi (ObjO.keep (S':=S) (fun k hk=>⟨hk,HJ.out.grow.block k (HS.out k hk) (by simp)⟩) _ _ hOi) (fun k hk=>Nat.lt_of_lt_of_le (HS.out k hk) HJ.out.grow.size);have Hpi:=xhd hpi;have hnm:(i:Int)<N:=by omega
   have hvs:=hOi.nil_or;clear hOi hCi hvi hpi hxi hcells;have hvc:vi.cells.size=1:=by rcases hvs with⟨_,rfl⟩|⟨_,t,u,rfl⟩<;>rfl
   clear hvs;go_wp2_with fail
   refine hcall.mono ?_;rintro e w2⟨ks2,vs2,S3,rfl,hI3,hS3,hg2⟩;obtain⟨⟨ko,kn,kc,rfl⟩,⟨vo,vn,vc,rfl⟩⟩:=IsO.slices hI3;have hrow2:=a0P HJ.out.row hg2 (fun k hk=>by simp);obtain⟨Hrow2,HI3,HS3,Hg2⟩:=xh4 hrow2 hI3 hS3 hg2;have Hw2:=xhd (show w.heap.size≤w2.heap.size from Nat.le_trans HJ.out.grow.size hg2.size);clear hrow2 hI3 hS3 hg2 hcall hcell hvc;unfold objV;obtain⟨q,hq⟩:∃q,q=a1f pi:=⟨_,rfl⟩;rw[←hq]at HI3⊢;have Hq:=xhd hq;clear hq;go_wp2_with (first|(at_builtin;refine wpList_append_own_at _ rfl _ _ 24 rfl w.heap.size 26 ti _ 7 96 Tryz.underlying24 hti htz0 htz1 htz2 rfl (by decide) _ _ _ rfl (World.ownsRow.alloc (World.ownsRow.alloc Hrow2.out _) _) ⟨w2.heap.size+1,0,none⟩ 1 1 (o7 q (.slice ko kn kc) (.slice vo vn vc)) (by rfl) (by rfl) (World.news_of_block (a0Z w2 w2.heap.size rfl _ _).2) (by simp[Value.oneCell',o7]) (by unfold maxLen;omega) (by omega) (by have:=Hw2.out;simp;omega) ?_))
   intro v7 w7 ho7 hg7 _ hat7
   have hshape:∃gg cap,v7=.slice (some ⟨gg,0,none⟩) (i+1) cap:=by
    rcases ho7.2 with⟨_,h0⟩|⟨gg,cap,cur,h,_⟩
    ·exact absurd h0 (by omega)
    ·exact⟨gg,cap,h⟩
   obtain⟨gg,cap7,rfl⟩:=hshape;have hwi:IntKind.i64.wrap ((i:Int)+1)=(i:Int)+1:=IntWalk.i64_in _ (by omega);have Hg7:=xhd (a0x (a0x hg7));have Ho7:=xhd ho7
   have Hat7:=xhd (show (Value.slice so sn sc).ownBlock=some gg∨w2.heap.size≤gg from by
    rcases hat7 with h|h
    ·left;rw[←h];rfl
    ·right;simp[Value.ownBlock]at h;omega)
   clear hg7 ho7 hat7;go_wp2_with fail
   go_roundg (N-(i+1))
   case measure=>rw[Hg.out];omega
   case rel =>
    have hJ:=HJ.out;have hrl:=World.ownsRow.lt hJ.row;have hs2:=Hg2.out.size;have hs7:=Hg7.out.size;refine⟨i+1,_,_,_,_,fun k=>S2 k∨S3 k,by simp,rfl,by omega,rfl,Ho7.out,?_,?_,?_⟩
    ·have htk:(a1o ps).take (i+1)=(a1o ps).take i++[q]:=by
      rw[a2e,Hq.out,List.take_add_one,List.getElem?_map,Hpi.out];rfl
     rw[htk];refine IsOs.append (IsOs.one (IsO.keep (fun k hk=>⟨.inr hk,?_⟩) _ _ _ HI3.out)) _ _ (IsOs.keep (fun k hk=>⟨.inl hk,?_⟩) _ _ hJ.objs)
     ·have:=HS3.out k hk
      exact Hg7.out.block k this.2 (fun e=>by have:=hrl k e.symm;omega)
     ·have:=hJ.bnd k hk
      exact(Hg7.out.block k (by omega) (fun e=>this.2.2 e.symm)).trans (Hg2.out.block k this.2.1 (by simp))
    ·intro k hk
     have hw:=hJ.grow.size;rcases hk with hk|hk
     ·have h1:=hJ.bnd k hk
      refine⟨h1.1,by omega,fun e=>?_⟩;have e:gg=k:=by simpa[Value.ownBlock] using e
      rcases Hat7.out with h|h
      ·exact h1.2.2 (h.trans (by rw[e]))
      ·omega
     ·have h1:=HS3.out k hk
      refine⟨by omega,by omega,fun e=>?_⟩;have e:gg=k:=by simpa[Value.ownBlock] using e
      rcases Hat7.out with h|h
      ·have:=hrl gg h;omega
      ·omega
    ·exact a0g (hJ.grow.trans Hg2.out) Hg7.out (fun j hj=>(hrl j hj).1)
  ·obtain rfl:i=N:=by omega
   go_wp2_with fail
   go_ret2;have hJ:=HJ.out;have hrow:=World.ownsRow.lt hJ.row;refine⟨.slice so sn sc,cells2,fun k=>S2 k∨(Value.slice so sn sc).ownBlock=some k,rfl,(SlAt.of_row hJ.row (fun k=>(Value.slice so sn sc).ownBlock=some k) (fun k hk=>hk)).keep (fun k hk=>⟨.inr hk,rfl⟩),?_,fun k hk=>?_,hJ.grow⟩
   ·have h:=IsOs.keep (S':=fun k=>S2 k∨(Value.slice so sn sc).ownBlock=some k) (fun k hk=>⟨.inl hk,rfl⟩) _ _ hJ.objs
    rwa [List.take_of_length_le (by rw[a2e];simp;have:=HN.out;omega)]at h
   ·rcases hk with hk|hk
    ·have:=hJ.bnd k hk;omega
    ·have:=hrow k hk;omega
open Go.Sort
theorem b7b {α:Type}(d:α):∀(ks:List By) (ps:List α) (i:Nat) (k:By) (p:α),ks.Nodup→ks[i]?=some k→ps[i]?=some p→look d ks ps k=p:=by
 intro ks
 induction ks with
 | nil=>intro ps i k p _ h;simp at h
 | cons q ks ih =>
  intro ps i k p hn hk hp
  cases ps with
  | nil=>simp at hp
  | cons r ps =>
   obtain⟨h1,h2⟩:=List.nodup_cons.1 hn
   cases i with
   | zero=>simp at hk hp;subst hk;subst hp;simp[look]
   | succ i =>
    have hk':ks[i]?=some k:=by simpa using hk
    have hqk:q≠k:=by rintro rfl;exact h1 (List.mem_of_getElem? hk')
    simp only[look,if_neg hqk];exact ih ps i k p h2 hk' (by simpa using hp)
structure TdJ (w wr:World)(i:Nat)(qs:List PO)(sl:Value)(cells:List Value)(S:Nat→Prop):Prop where
 row:wr.ownsRow w.heap.size 26 7 sl i cells
 objs:IsOs S wr (qs.take i) cells
 bnd:∀k,S k→w.heap.size≤k∧k<wr.heap.size∧sl.ownBlock≠some k
 grow:w.grownBy wr none
theorem b0e {w:World}{base:Nat}{so:Option Addr}{sn sc:Nat}{ss:List By}(hrow:w.ownsRow base 9 1 (.slice so sn sc) ss.length (ss.map encStr))(hl:ss.length≤1000000) :
  Calls Tryz.prog 78 #[.slice so sn sc] w fun e w'=>e=.returned (.tuple #[])∧w.grownBy w' (Value.slice so sn sc).ownBlock∧w'.ownsRow base 9 1 (.slice so sn sc) ss.length ((ss.mergeSort leBy).map encStr):=by
 rcases hrow.2 with⟨hnil,h0⟩|⟨g,cap,cur,he,hbase,hb,h1,h2,h3,h4⟩
 ·injection hnil with e1 e2 e3
  subst e1;subst e2;subst e3
  obtain rfl:ss=[]:=List.eq_nil_of_length_eq_zero h0;refine(Tryz.sort_Strings_none none 0 w).mono ?_;rintro e w'⟨rfl,rfl⟩;exact⟨rfl,xgr _ _,by simpa using hrow⟩
 ·injection he with e1 e2 e3
  subst e1;subst e2;subst e3
  have hH:Holds encStr w g 0 ss.toArray:=holds_of_block hb (by simpa using h4);refine(Tryz.sort_Strings g 0 sc ss w hH (xgl hb) (by omega)).mono ?_;rintro e w'⟨rfl,nn,os,rfl⟩;exact⟨rfl,grownBy_sorted _,ownsRow_sorted (by simp) hbase hb h1 h2 h3⟩
def b5H (w w':World)(pk:List By)(ps:List PO)(e:Ending):Prop:=∃kv vs cs S',e=.returned (.tuple #[kv,vs,.bool true])∧SlAt S' w' kv 1 pk.length (a3i (pk.mergeSort leBy))∧SlAt S' w' vs 7 pk.length cs∧IsOs S' w' ((pk.mergeSort leBy).map (look .null pk (a1o ps))) cs∧(∀k,S' k→w.heap.size≤k∧k<w'.heap.size)∧w.grownBy w' none
theorem b3i (nn:Nat→Prop)(n:Nat)(hT:b6o nn n)(pk:List By)(ps:List PO)(ks:List By)(xs:List PV)(S:Nat→Prop)(w:World)(db:Nat)(vals:List Value)(hC:Corr nn (n+1) (.dict pk ps) (.dict ks xs))(hK:a3O pk)(hD:a1y w db pk vals)(hO:a0J S w ps vals)(hS:∀k,S k→k<w.heap.size) :
  Calls Tryz.prog 66 #[.map (some db)] w fun e w'=>b5H w w' pk ps e:=by
 obtain⟨hkl,hnd,D,hown,hhas,hat⟩:=hD;have hdb:=hown.lt;obtain⟨ti,hti,htz0,htz1,htz2⟩:=info_parts Tryz.info9;have hN:pk.length≤1000000:=hK.1;obtain⟨N,hNN⟩:∃N,N=pk.length:=⟨_,rfl⟩;rw[←hNN]at hown hN;obtain⟨HO,HC,HT,HS,HK,Hkl,Hnd,Hhas⟩:=xh8 hO hC hT hS hK hkl hnd hhas;obtain⟨Hat,HNN⟩:=xh2 hat hNN;have hsz:=hown.size_le;have Hown:=xhd hown;clear hO hC hT hS hK hkl hnd hhas hat hNN;go_enter Tryz.func66,Tryz.ntmps66
 go_wp2_with (first
  | (at_range;refine wpList_range_own _ rfl _ 81 rfl 9 50 a4h Tryz.underlying81 RV db N D rfl hown ?_))
 intro w1 hrg1 hg1 hs1;obtain⟨Hg1,Hs1⟩:=xh2 hg1 hs1;clear hown hg1 hs1;go_wp2_with fail
 go_loopg [2] (Maps.size D) (fun g t2 wr=>∃left ss so sn sc,t2=.slice so sn sc∧wr.ranges Tryz.prog 9 RV db w.heap.size N D left g∧Collected D left ss∧ss.length+g≤N∧wr.ownsRow (w.heap.size+1) 9 1 (.slice so sn sc) ss.length (ss.map encStr)∧w.grownBy wr none)
 case atStart =>
  exact⟨_,[],none,0,0,rfl,hrg1,Collected.start D,by simpa using hsz,World.ownsRow_nil _ _ _ _,Hg1.out⟩
 case round =>
  clear hrg1;obtain⟨left,ss,so,sn,sc,rfl,hrg,hCo,hlen,hrow,hG⟩:=hrel;obtain⟨HCo,Hlen,Hrow,HG⟩:=xh4 hCo hlen hrow hG;clear hCo hlen hrow hG
  go_wp2_with (first
   | (at_next;refine wpList_next_ranges _ rfl _ rfl 9 a4h RV encStr (fun v:Value=>v) (fun key kl hk=>by obtain⟨x,hx,_⟩:=Maps.keyOf_str Tryz.underlying9 hk;exact⟨x,hx⟩) (fun v y hv=>⟨v,rfl⟩) db w.heap.size N _ _ _ rfl hrg ?_ ?_))
  ·intro hc0 hl0
   have hperm:ss.Perm pk:=by
    refine(List.perm_ext_iff_of_nodup HCo.out.1 Hnd.out).2 fun x=>?_;rw[HCo.out.2 x,Hhas.out,hl0];simp
   have hss:ss.length=N:=by rw[HNN.out];exact hperm.length_eq
   have hms:ss.mergeSort leBy=pk.mergeSort leBy:=mergeSort_of_perm hperm;have hsort:=b0e Hrow.out (by omega);rw[hms,hss]at hsort;have Hdbo:=xhd (show ∀k,(Value.slice so sn sc).ownBlock=some k→w.heap.size+1≤k∧k<wr.heap.size from World.ownsRow.lt Hrow.out);clear hperm hss hms hl0 hrg;go_wp2_with fail
   refine hsort.mono ?_;rintro e w2⟨rfl,hg2,hrow2⟩
   have hsn:sn=N:=by
    rcases hrow2.2 with⟨hnil,h0⟩|⟨g,cap,cur,he,_⟩
    ·injection hnil with e1 e2 e3;omega
    ·injection he with e1 e2 e3
   subst hsn;have hG2:w.grownBy w2 none:=a0g HG.out hg2 (fun k hk=>by have:=Hdbo.out k hk;omega);have HG2:=xhd hG2;have Hown2:=xhd (Hown.out.kept hG2 (by simp));have Hrow2:=xhd hrow2;obtain⟨T,hTd⟩:∃T,T=pk.mergeSort leBy:=⟨_,rfl⟩;rw[←hTd]at Hrow2;have hTl:T.length=sn:=by rw[hTd,List.length_mergeSort,←HNN.out]
   obtain⟨HTd,HTl⟩:=xh2 hTd hTl;have hrow2lt:=World.ownsRow.lt Hrow2.out;have Hr2lt:=xhd hrow2lt;obtain⟨ti2,hti',htz0',htz1',htz2'⟩:=info_parts Tryz.info26;clear hsort hg2 hrow2 hG2 hTd hTl hrow2lt;go_wp2_with fail
   go_loopg [2,3,24] sn (fun g t2 t3 t24 wq=>∃i po pn pc cells2 S2,t2=.slice so sn sc∧t24=.int .i64 (i:Nat)∧g=sn-i∧i≤sn∧t3=.slice po pn pc∧TdJ w2 wq i (T.map (look .null pk (a1o ps))) (.slice po pn pc) cells2 S2)
   case atStart =>
    exact⟨0,none,0,0,[],fun _=>False,rfl,rfl,rfl,Nat.zero_le _,rfl,World.ownsRow_nil _ _ _ _,by simp[IsOs],fun k hk=>hk.elim,xgr _ _⟩
   case round =>
    obtain⟨i,po,pn,pc,cells2,S2,rfl,rfl,hg,hi,rfl,hJ⟩:=hrel;obtain⟨HJ,Hg⟩:=xh2 hJ hg;clear hJ hg
    by_cases hiN:i<sn
    ·have hso:∃g0,so=some ⟨g0,0,none⟩:=by
      rcases Hrow2.out.2 with⟨hnil,h0⟩|⟨g,cap,cur,he,_⟩
      ·omega
      ·injection he with e1 _ _;exact⟨g,e1⟩
     obtain⟨g0,rfl⟩:=hso;obtain⟨k,hk⟩:∃k,T[i]?=some k:=⟨_,List.getElem?_eq_getElem (by rw[HTl.out];exact hiN)⟩
     have hkm:k∈pk:=by
      have:=List.mem_of_getElem? hk;rw[HTd.out]at this;exact a5d.1 this
     obtain⟨i',hi'⟩:=List.mem_iff_getElem?.1 hkm;have hi'lt:=(List.getElem?_eq_some_iff.1 hi').1;have hcor:=HC.out;simp only[Corr]at hcor;obtain⟨p,hp⟩:∃p,ps[i']?=some p:=⟨_,List.getElem?_eq_getElem (by rw[←hcor.2.2.1];exact hi'lt)⟩;obtain⟨v,hv,hOv⟩:=a0J.get ps vals HO.out i' p hp;obtain⟨x,_,_,hCx⟩:=hcor.2.2.2.2 i' k p hi' hp
     have hqi:(T.map (look .null pk (a1o ps)))[i]?=some (a1f p):=by
      rw[List.getElem?_map,hk]
      show some _=_
      rw[b7b PO.null pk (a1o ps) i' k (a1f p) Hnd.out hi' (by rw[a2e,List.getElem?_map,hp];rfl)]
     have hGw:=HG2.out.trans HJ.out.grow;have hownr:=Hown2.out.kept HJ.out.grow (by simp);have hkl:=HK.out.2 k hkm;obtain⟨v',ps',hlk,hRv⟩:=hownr.lookup a4h Tryz.underlying81 (b3E wr) (zd:=.held .nilIface) (zp:=[]) rfl (key9 k (by unfold maxLen;omega))
     have hvv:v'=v:=by
      rw[Hat.out i' k v hi' hv]at hRv;have h1:DataW.held v'=DataW.held v:=congrArg Prod.fst (Option.some.inj hRv);injection h1
     subst hvv
     have hcell:wr.cell? ⟨g0,i,none⟩=some (.string (bs k)):=by
      have hrk:=World.ownsRow.kept Hrow2.out HJ.out.grow (.inr (by simp[Value.ownBlock]));have:=World.ownsRow.cells hrk (g:=g0) rfl i (encStr k) (by rw[List.getElem?_map,hk];rfl);have e:(⟨g0,0,none⟩:Addr).add i=⟨g0,i,none⟩:=by unfold Addr.add;split<;>simp_all
      rw[e]at this;exact this
     have hcall:=HT.out p x S wr v' hCx (ObjO.keep (S':=S) (fun k hk=>⟨hk,hGw.block k (HS.out k hk) (by simp)⟩) _ _ hOv) (fun k hk=>Nat.lt_of_lt_of_le (HS.out k hk) hGw.size);have Hqi:=xhd hqi;have hnm:(i:Int)<sn:=by omega
     clear hk hkm hi' hi'lt hcor hp hv hOv hCx hqi hGw hownr hkl hRv;go_wp2_with fail
     refine hcall.mono ?_;rintro e w3⟨ks2,vs2,S3,rfl,hI3,hS3,hg3⟩;obtain⟨⟨ko,kn,kc,rfl⟩,⟨vo,vn,vc,rfl⟩⟩:=IsO.slices hI3;have hrow3:=a0P HJ.out.row hg3 (fun k hk=>by simp);obtain⟨Hrow3,HI3,HS3,Hg3⟩:=xh4 hrow3 hI3 hS3 hg3;have Hw3:=xhd (show w2.heap.size≤w3.heap.size from Nat.le_trans HJ.out.grow.size hg3.size);unfold objV;obtain⟨q,hq⟩:∃q,q=a1f p:=⟨_,rfl⟩;rw[←hq]at HI3 Hqi⊢;clear hrow3 hI3 hS3 hg3 hcall hcell hlk hq;go_wp2_with (first|(at_builtin;refine wpList_append_own_at _ rfl _ _ 24 rfl w2.heap.size 26 ti2 _ 7 96 Tryz.underlying24 hti' htz0' htz1' htz2' rfl (by decide) _ _ _ rfl (World.ownsRow.alloc (World.ownsRow.alloc Hrow3.out _) _) ⟨w3.heap.size+1,0,none⟩ 1 1 (o7 q (.slice ko kn kc) (.slice vo vn vc)) (by rfl) (by rfl) (World.news_of_block (a0Z w3 w3.heap.size rfl _ _).2) (by simp[Value.oneCell',o7]) (by unfold maxLen;omega) (by omega) (by have:=Hw3.out;simp;omega) ?_))
     intro v7 w7 ho7 hg7 _ hat7
     have hshape:∃gg cap,v7=.slice (some ⟨gg,0,none⟩) (i+1) cap:=by
      rcases ho7.2 with⟨_,h0⟩|⟨gg,cap,cur,h,_⟩
      ·exact absurd h0 (by omega)
      ·exact⟨gg,cap,h⟩
     obtain⟨gg,cap7,rfl⟩:=hshape;have hwi:IntKind.i64.wrap ((i:Int)+1)=(i:Int)+1:=IntWalk.i64_in _ (by omega);have Hg7:=xhd (a0x (a0x hg7));have Ho7:=xhd ho7
     have Hat7:=xhd (show (Value.slice po pn pc).ownBlock=some gg∨w3.heap.size≤gg from by
      rcases hat7 with h|h
      ·left;rw[←h];rfl
      ·right;simp[Value.ownBlock]at h;omega)
     clear hg7 ho7 hat7;go_wp2_with fail
     go_roundg (sn-(i+1))
     case measure=>rw[Hg.out];omega
     case rel =>
      have hJ:=HJ.out;have hrl:=World.ownsRow.lt hJ.row;have hs2:=Hg3.out.size;have hs7:=Hg7.out.size;refine⟨i+1,_,_,_,_,fun k=>S2 k∨S3 k,rfl,by simp,rfl,by omega,rfl,Ho7.out,?_,?_,?_⟩
      ·have htk:(T.map (look .null pk (a1o ps))).take (i+1)=(T.map (look .null pk (a1o ps))).take i++[q]:=by
        rw[List.take_add_one,Hqi.out];rfl
       rw[htk];refine IsOs.append (IsOs.one (IsO.keep (fun k hk=>⟨.inr hk,?_⟩) _ _ _ HI3.out)) _ _ (IsOs.keep (fun k hk=>⟨.inl hk,?_⟩) _ _ hJ.objs)
       ·have:=HS3.out k hk
        exact Hg7.out.block k this.2 (fun e=>by have:=hrl k e.symm;omega)
       ·have:=hJ.bnd k hk
        exact(Hg7.out.block k (by omega) (fun e=>this.2.2 e.symm)).trans (Hg3.out.block k this.2.1 (by simp))
      ·intro k hk
       have hw:=hJ.grow.size;rcases hk with hk|hk
       ·have h1:=hJ.bnd k hk
        refine⟨h1.1,by omega,fun e=>?_⟩;have e:gg=k:=by simpa[Value.ownBlock] using e
        rcases Hat7.out with h|h
        ·exact h1.2.2 (h.trans (by rw[e]))
        ·omega
       ·have h1:=HS3.out k hk
        refine⟨by omega,by omega,fun e=>?_⟩;have e:gg=k:=by simpa[Value.ownBlock] using e
        rcases Hat7.out with h|h
        ·have:=hrl gg h;omega
        ·omega
      ·exact a0g (hJ.grow.trans Hg3.out) Hg7.out (fun j hj=>(hrl j hj).1)
    ·obtain rfl:i=sn:=by omega
     have y30:∀(a b c:Value),([a,b,c]:List Value)[0]?=some a:=fun _ _ _=>rfl;have y31:∀(a b c:Value),([a,b,c]:List Value)[1]?=some b:=fun _ _ _=>rfl;have y32:∀(a b c:Value),([a,b,c]:List Value)[2]?=some c:=fun _ _ _=>rfl;go_wp2_with fail
     refine bodyPost_ret (v:=.tuple #[.slice so i sc,.slice po pn pc,.bool true]) (by simp[results,Tryz.results66,go_sem]<;>rfl) rfl ?_;have hJ:=HJ.out;have hrow:=World.ownsRow.lt hJ.row;have hrk:=a0P Hrow2.out hJ.grow (fun k hk=>by simp);have hs:=hJ.grow.size;have hs2:=HG2.out.size;refine⟨.slice so i sc,.slice po pn pc,cells2,fun k=>S2 k∨(Value.slice po pn pc).ownBlock=some k∨(Value.slice so i sc).ownBlock=some k,rfl,?_,?_,?_,?_,HG2.out.trans hJ.grow⟩
     ·rw[←HNN.out,←HTd.out]
      exact(SlAt.of_row hrk (fun k=>(Value.slice so i sc).ownBlock=some k) (fun k hk=>hk)).keep (fun k hk=>⟨.inr (.inr hk),rfl⟩)
     ·rw[←HNN.out]
      exact(SlAt.of_row hJ.row (fun k=>(Value.slice po pn pc).ownBlock=some k) (fun k hk=>hk)).keep (fun k hk=>⟨.inr (.inl hk),rfl⟩)
     ·have h:=IsOs.keep (S':=fun k=>S2 k∨(Value.slice po pn pc).ownBlock=some k∨(Value.slice so i sc).ownBlock=some k) (fun k hk=>⟨.inl hk,rfl⟩) _ _ hJ.objs
      rwa [List.take_of_length_le (by simp;have:=HTl.out;omega),HTd.out]at h
     ·intro k hk
      rcases hk with hk|hk|hk
      ·have:=hJ.bnd k hk;omega
      ·have:=hrow k hk;omega
      ·have:=Hr2lt.out k hk;omega
  ·intro x c kl yd yp w2 cnt2 hkey hlk hv hat hrg2 hlt hg2 hs2 hen
   obtain⟨x',ex,rfl,hxl⟩:=Maps.keyOf_str Tryz.underlying9 hkey;obtain rfl:x=x':=encStr_inj ex;have hrow2:=World.ownsRow.kept Hrow.out hg2 (Or.inr (row_ne_iter Hrow.out hrg).symm);have HC2:=xhd (Collected.step HCo.out hlk hat);obtain⟨Hg2,Hrg,Hrg2,Hlt,Hrow2⟩:=xh5 hg2 hrg hrg2 hlt hrow2;have Hw2:=xhd (show w.heap.size+1≤w2.heap.size by have:=HG.out.size;have:=hg2.size;have:=hrg.lt;omega);clear hs2 hkey hlk hv hat hlt hg2 hrow2 ex hxl hrg hrg2;have hen':(Instr.entry (.pointer (some ⟨w.heap.size,0,none⟩))).run Tryz.prog w2=.ok (.tuple #[.string ⟨x.toArray⟩,c]) w2:=hen;clear hen
   go_wp2_with (first
    | (at_builtin;refine wpList_append_own_at _ rfl _ _ 23 rfl (w.heap.size+1) 9 ti (.string ⟨#[]⟩) 1 16 Tryz.underlying23 hti htz0 htz1 htz2 rfl (by decide) _ _ _ rfl (World.ownsRow.alloc Hrow2.out _) ⟨w2.heap.size,0,none⟩ 1 1 [.string ⟨x.toArray⟩] rfl rfl (cell_one_new _ _ _) (by simp[Value.oneCell']) (by have:=Hlen.out;unfold maxLen;omega) (by have:=Hlen.out;omega) (by have:=Hw2.out;simp;omega) ?_))
   intro v7 w7 ho7 hg7 _ hat7
   have hshape:∃gg cap,v7=.slice (some ⟨gg,0,none⟩) (ss.length+1) cap:=by
    rcases ho7.2 with⟨_,h0⟩|⟨gg,cap,cur,h,_⟩
    ·exact absurd h0 (by omega)
    ·exact⟨gg,cap,h⟩
   obtain⟨gg,cap7,rfl⟩:=hshape;have hrg7:=(Hrg2.out.alloc _).kept hg7 (row_ne_low Hrow2.out (by omega)) (row_ne_iter Hrow2.out Hrg2.out);have Hrg7:=xhd hrg7;have Hg7:=xhd (a0x hg7);have Ho7:=xhd ho7;clear hrg7 hg7 ho7 hat7 hen';go_wp2_with fail
   go_roundg cnt2
   case measure=>exact Hlt.out
   case rel =>
    refine⟨_,ss++[x],some ⟨gg,0,none⟩,ss.length+1,cap7,rfl,Hrg7.out,HC2.out,?_,?_,?_⟩
    ·have:=Hlen.out;have:=Hlt.out;simp;omega
    ·have h:=Ho7.out
     simpa[encStr] using h
    ·refine a0g (a0g HG.out Hg2.out (fun k hk=>by injection hk with hk;omega)) Hg7.out (fun k hk=>?_)
     have:=World.ownsRow.lt Hrow2.out k hk;omega
end Go.Proofs.YtfkecmlmnhbmoaaGreatDoor
namespace Go.Proofs.YtfkecmlmnhbmoaaGreatDoor
open Go Go.RowKit Go.Maps
theorem a8o {w3:World}{B:Nat}{a0 a1 a2 a3 a4 a5 a6 v0 v1 v2 v3 v4 v5 v6 u3:Value}{tmps:Array Value}{R:Ending→World→Prop}(h2:tmps.getD 2 undef=.pointer (some ⟨B,0,none⟩))(h3:tmps.getD 3 undef=u3)
  (hz:w3.heap[B]?=some (.cells #[a0,a1,a2,a3,a4,a5,a6] 26 (0,0)))
  (hR:∀w',(∀r,w3.grownBy w' r→True)→(∀k,k≠B→w'.heap[k]?=w3.heap[k]?)→w'.heap.size=w3.heap.size→(∀w0 r,World.grownBy w0 w3 r→w0.heap.size≤B→World.grownBy w0 w' r)→R (.returned (.tuple #[.agg #[v0,v1,v2,v3,v4,v5,v6],u3])) w'):bodyPost Tryz.prog Tryz.f55 R Exit.ret { tmps:=tmps,defers:=[] } (set7 w3 B v0 v1 v2 v3 v4 v5 v6):=by
 have hz4:=a3u hz v0 v1 v2 v3 v4 v5 v6;have hR4:=hR _ (fun _ _=>trivial) (fun k hk=>a1C w3 B k v0 v1 v2 v3 v4 v5 v6 hk) (a1U w3 B v0 v1 v2 v3 v4 v5 v6) (fun w0 r hg hB=>a3d hg hB v0 v1 v2 v3 v4 v5 v6);generalize set7 w3 B v0 v1 v2 v3 v4 v5 v6=w4 at *;obtain⟨y0,y1,y2,y3,y4,y5,y6,yf⟩:=a0n hz4;simp only[Array.getD_eq_getD_getElem?]at h2 h3;exact bodyPost_ret (v:=.tuple #[.agg #[v0,v1,v2,v3,v4,v5,v6],u3]) (by simp[results,Tryz.results55,go_sem,h2,h3,y0,y1,y2,y3,y4,y5,y6]) rfl hR4
def Z26:Obj:=.cells #[.int .i64 0,.int .i64 0,.int .i64 0,.float .f64 0,.string ⟨#[]⟩,.slice none 0 0,.slice none 0 0] 26 (0,0)
theorem b5l (w:World)(ps:List PO)(o:Option Addr)(cap:Nat)(hl:ps.length≤1000000)
  (hc:Calls Tryz.prog 65 #[.slice o ps.length cap] (w.alloc Z26) fun e w'=>∃vs cs S',e=.returned (.tuple #[vs,.bool true])∧SlAt S' w' vs 7 ps.length cs∧IsOs S' w' (a1o ps) cs∧(∀k,S' k→(w.alloc Z26).heap.size≤k∧k<w'.heap.size)∧(w.alloc Z26).grownBy w' none) :
  Calls Tryz.prog 55 #[.iface 77 (.slice o ps.length cap)] w fun e w'=>a0W w w' (a1f (.arr ps)) e:=by
 have hz0:=heap_alloc_new w Z26;have hg0:w.grownBy (w.alloc Z26) none:=a0a (xgr w none) _;have hs0:(w.alloc Z26).heap.size=w.heap.size+1:=by simp
 obtain⟨Hl,Hs0⟩:=xh2 hl hs0;obtain⟨N,hN⟩:∃N,N=ps.length:=⟨_,rfl⟩;rw[←hN]at hc⊢;have HN:=xhd hN;clear hN hs0 hl;unfold Z26 at *;go_enter Tryz.func55,Tryz.ntmps55;go_wp2_with fail
 refine hc.mono ?_;rintro e w1⟨vs,cs,S',rfl,hsl,hIs,hS,hg1⟩;have hz1:=(hg1.block _ (by simp) (by simp)).trans hz0;obtain⟨z0,z1,z2,z3,z4,z5,z6,zf⟩:=a0n hz1
 obtain⟨vo,vcap,rfl⟩:∃vo vcap,vs=.slice vo N vcap:=by
  obtain⟨_,o',cap,h,_⟩:=hsl;exact⟨o',cap,h⟩
 obtain⟨Hsl,HIs,HS⟩:=xh3 hsl hIs hS;have HG:=xhd (hg0.trans hg1);have Hz1:=xhd hz1;clear hsl hIs hS hg1 hz1 hg0 hc hz0;go_wp2_with fail
 refine a8o rfl rfl Hz1.out ?_;intro w' _ hk hsz hgr;have hne:∀k,S' k→k≠w.heap.size:=fun k hk=>by have:=HS.out k hk;have:=Hs0.out;omega
 refine⟨nilS,.slice vo N vcap,S',rfl,?_,fun k hk=>by have:=HS.out k hk;have:=Hs0.out;omega,hgr _ _ HG.out (Nat.le_refl _)⟩;simp only[a1f,IsO];refine⟨by rw[a2e];simpa using Hl.out,SlAt.nil _ _ _,cs,?_,IsOs.keep (fun k hk'=>⟨hk',hk k (hne k hk')⟩) _ _ HIs.out⟩;have h:=Hsl.out.keep (S':=S') (w':=w') (fun k hk'=>⟨hk',hk k (hne k hk')⟩);rw[a2e,List.length_map,←HN.out];exact h
theorem a3O.sort {pk:List By}(h:a3O pk):a3O (pk.mergeSort leBy):=⟨by rw[List.length_mergeSort];exact h.1,fun k hk=>h.2 k (a5d.1 hk)⟩
theorem b3k (w:World)(pk:List By)(ps:List PO)(db:Nat)(hK:a3O pk)(hc:Calls Tryz.prog 66 #[.map (some db)] (w.alloc Z26) fun e w'=>b5H (w.alloc Z26) w' pk ps e) :
  Calls Tryz.prog 55 #[.iface 81 (.map (some db))] w fun e w'=>a0W w w' (a1f (.dict pk ps)) e:=by
 have hz0:=heap_alloc_new w Z26;have hg0:w.grownBy (w.alloc Z26) none:=a0a (xgr w none) _;have hs0:(w.alloc Z26).heap.size=w.heap.size+1:=by simp
 obtain⟨HK,Hs0⟩:=xh2 hK hs0;clear hs0 hK;unfold Z26 at *;go_enter Tryz.func55,Tryz.ntmps55;go_wp2_with fail
 refine hc.mono ?_;rintro e w1⟨kv,vs,cs,S',rfl,hkv,hsl,hIs,hS,hg1⟩;have hz1:=(hg1.block _ (by simp) (by simp)).trans hz0;obtain⟨z0,z1,z2,z3,z4,z5,z6,zf⟩:=a0n hz1;obtain⟨N,hN⟩:∃N,N=pk.length:=⟨_,rfl⟩;rw[←hN]at hkv hsl
 obtain⟨vo,vcap,rfl⟩:∃vo vcap,vs=.slice vo N vcap:=by
  obtain⟨_,o',cap,h,_⟩:=hsl;exact⟨o',cap,h⟩
 obtain⟨ko,kcap,rfl⟩:∃ko kcap,kv=.slice ko N kcap:=by
  obtain⟨_,o',cap,h,_⟩:=hkv;exact⟨o',cap,h⟩
 obtain⟨Hsl,Hkv,HIs,HS⟩:=xh4 hsl hkv hIs hS;have HG:=xhd (hg0.trans hg1);obtain⟨Hz1,HN⟩:=xh2 hz1 hN;clear hsl hkv hIs hS hg1 hz1 hg0 hc hz0 hN;have y30:∀(a b c:Value),([a,b,c]:List Value)[0]?=some a:=fun _ _ _=>rfl;have y31:∀(a b c:Value),([a,b,c]:List Value)[1]?=some b:=fun _ _ _=>rfl;have y32:∀(a b c:Value),([a,b,c]:List Value)[2]?=some c:=fun _ _ _=>rfl;go_wp2_with fail
 refine a8o rfl rfl Hz1.out ?_;intro w' _ hk hsz hgr;have hne:∀k,S' k→k≠w.heap.size:=fun k hk=>by have:=HS.out k hk;have:=Hs0.out;omega
 refine⟨.slice ko N kcap,.slice vo N vcap,S',rfl,?_,fun k hk=>by have:=HS.out k hk;have:=Hs0.out;omega,hgr _ _ HG.out (Nat.le_refl _)⟩;simp only[a1f,IsO];refine⟨HK.out.sort,by simp,?_,cs,?_,IsOs.keep (fun k hk'=>⟨hk',hk k (hne k hk')⟩) _ _ HIs.out⟩
 ·have h:=Hkv.out.keep (S':=S') (w':=w') (fun k hk'=>⟨hk',hk k (hne k hk')⟩)
  rw[List.length_mergeSort,←HN.out];exact h
 ·have h:=Hsl.out.keep (S':=S') (w':=w') (fun k hk'=>⟨hk',hk k (hne k hk')⟩)
  rw[List.length_map,List.length_mergeSort,←HN.out];exact h
theorem b3j (nn:Nat→Prop):∀n,b6o nn n:=by
 intro n
 induction n with
 | zero=>intro p x S w v h;simp[Corr]at h
 | succ n ih =>
  intro p x S w v hC hO hS;have hg0:w.grownBy (w.alloc Z26) none:=a0a (xgr w none) _;have hS2:∀k,S k→S k∧(w.alloc Z26).heap[k]?=w.heap[k]?:=fun k hk=>⟨hk,hg0.block k (hS k hk) (by simp)⟩;have hS3:∀k,S k→k<(w.alloc Z26).heap.size:=fun k hk=>Nat.lt_of_lt_of_le (hS k hk) hg0.size
  cases p<;>simp only[ObjO]at hO
  case null=>subst hO;exact b3n w
  case bool y=>subst hO;cases y;exact a9j w;exact b0S w
  case int n=>subst hO;exact b5m n w
  case real y=>subst hO;exact b3o y w
  case lit s=>obtain⟨h,rfl⟩:=hO;exact b5n s h w
  case hexl s=>obtain⟨h,rfl⟩:=hO;exact b3l s h w
  case name s=>obtain⟨h,rfl⟩:=hO;exact b3m s h w
  case ref n g=>subst hO;exact b5o n g w
  case arr kids =>
   obtain⟨hl,sl,cells,rfl,hsl,hOs⟩:=hO
   cases x<;>simp only[Corr]at hC<;>try exact hC.elim
   rename_i xs;have hc:=b3p nn n ih kids xs S (w.alloc Z26) sl cells (by simp only[Corr];exact hC) hl (hsl.keep hS2) (a0J.keep hS2 _ _ hOs) hS3;obtain⟨_,o,cap,rfl,_⟩:=hsl;exact b5l w kids o cap hl hc
  case dict keys kids =>
   obtain⟨hK,db,vals,rfl,hSd,hD,hOs⟩:=hO
   cases x<;>simp only[Corr]at hC<;>try exact hC.elim
   rename_i ks xs;have hc:=b3i nn n ih keys kids ks xs S (w.alloc Z26) db vals (by simp only[Corr];exact hC) hK (hD.keep (hS2 db hSd).2) (a0J.keep hS2 _ _ hOs) hS3;exact b3k w keys kids db hK hc
theorem a7B (p:Addr)(w:World) :
  CallsD Tryz.prog 41 #[.pointer (some p)] .returning w fun e u' w'=>e=.returned (.tuple #[])∧u'=.returning∧w'=w:=by
 refine callsD_of_wpS Tryz.func41 rfl fun c₀ cs hu=>?_;apply wpS_seq;apply wpS_region;simp[wpOpsS,go_sem,recoverD,hu,Tryz.ntmps41,Exit.thenS];refine wpS_cond (t:=false) (by simp[Act.eval,Array.replicate]) ?_;simp only[Bool.false_eq_true,if_false];refine wpS_of_wp (wp_skip ?_)
 cases c₀
 simp_all[bodyPostS,results,Tryz.results41]
theorem b3T (w:World)(args:Array Value)(R:World→Prop)(hF:Calls Tryz.prog 54 args (w.alloc (.cells #[.bool false] 4)) fun e w'=>e=.returned (.tuple #[])∧w'.heap[w.heap.size]?=some (.cells #[.bool false] 4 (0,0))∧R w') :
  Calls Tryz.prog 22 #[.func (.func 54) #[] args] w fun e w'=>e=.returned (.bool true)∧∃w1,R w1∧w1.heap[w.heap.size]?=some (.cells #[.bool false] 4 (0,0))∧w'=w1.setCell ⟨w.heap.size,0,none⟩ (.bool true):=by
 have hmf:∀(fn:Fn) (first cap:Array Value) (w:World),(Instr.makeFunc fn first cap).run Tryz.prog w=.ok (.func fn first cap) w:=fun _ _ _ _=>rfl
 go_enter_defers Tryz.func22,Tryz.ntmps22
 go_wp2_with fail
 refine hF.mono ?_;rintro e w1⟨rfl,hz,hR⟩;have c1:w1.cell? ⟨w.heap.size,0,none⟩=some (.bool false):=by simp[World.cell?,hz]
 have f1:w1.frozen? ⟨w.heap.size,0,none⟩=false:=by simp[World.frozen?,hz]
 have HR:=xhd (And.intro hR hz);clear hF hR hz;go_wp2_with fail
 refine leaves_cons (f:=41) (args:=#[.pointer (some ⟨w.heap.size,0,none⟩)]) (by simp) (by simp[go_sem]) ?_;refine(a7B ⟨w.heap.size,0,none⟩ _).mono ?_;rintro e u' w''⟨rfl,rfl,rfl⟩;have hz2:=a0T HR.out.2 (.bool true);refine Exists.intro (.bool true) ⟨by simp[results,Tryz.results22,go_sem,World.cell?,hz2],?_⟩;exact⟨rfl,w1,HR.out.1,HR.out.2,rfl⟩
def b0Z (nn:NQ)(n:Nat)(w w':World)(b bo be:Nat)(x:PV)(r:By):Prop :=
 ∃ po v S, w'.heap[bo]? = some (.cells #[v] 50 (0, 0)) ∧ w'.heap[be]? = some (.cells #[.nilIface] 92 (0, 0)) ∧ ObjO S w' po v ∧ (∀ k, S k → w.heap.size ≤ k ∧ k < w'.heap.size) ∧ (Corr nn.1 n po x ∧ nn.2 po) ∧ a0v w' b r ∧
  w'.os=w.os∧w'.tape=w.tape∧w'.output=w.output∧w.heap.size≤w'.heap.size∧∀k,k<w.heap.size→k≠b→k≠bo→k≠be→w'.heap[k]?=w.heap[k]?
theorem b4N (nn:NQ)(n:Nat)(w:World)(bx b bo be:Nat)(x:PV)(r:By)(hx:w.heap[bx]?=some (.cells #[.func (.func 30) #[] #[]] 62 (0,0)))(ho:w.heap[bo]?=some (.cells #[.nilIface] 50 (0,0)))(he:w.heap[be]?=some (.cells #[.nilIface] 92 (0,0)))(hne:b<bo)(hne2:bo<be)
  (hc:Calls Tryz.prog 30 #[.pointer (some ⟨b,0,none⟩)] w fun e w'=>a0E nn n w w' b x r e) :
  Calls Tryz.prog 54 #[.pointer (some ⟨bx,0,none⟩),.pointer (some ⟨b,0,none⟩),.pointer (some ⟨bo,0,none⟩),.pointer (some ⟨be,0,none⟩)] w fun e w'=>e=.returned (.tuple #[])∧b0Z nn n w w' b bo be x r:=by
 have c1:w.cell? ⟨bx,0,none⟩=some (.func (.func 30) #[] #[]):=by simp[World.cell?,hx]
 have hbe:=(xgl he);have hbo:=(xgl ho);obtain⟨Ho,He⟩:=xh2 ho he;clear hx ho he;go_enter Tryz.func54,Tryz.ntmps54;go_wp2_with fail
 refine hc.mono ?_;rintro e w1⟨po,v,S,rfl,hO,hS,hC,hL,hg⟩;have ho1:=(hg.block bo hbo (by simp;omega)).trans Ho.out;have he1:=(hg.block be hbe (by simp;omega)).trans He.out;have co:w1.cell? ⟨bo,0,none⟩=some .nilIface:=by simp[World.cell?,ho1]
 have fo:w1.frozen? ⟨bo,0,none⟩=false:=by simp[World.frozen?,ho1]
 have ce:w1.cell? ⟨be,0,none⟩=some .nilIface:=by simp[World.cell?,he1]
 have fe:w1.frozen? ⟨be,0,none⟩=false:=by simp[World.frozen?,he1]
 have hoe:¬be=bo:=by omega
 have hoe2:¬bo=be:=by omega
 have H:=xhd (show b0Z nn n w ((w1.setCell ⟨bo,0,none⟩ v).setCell ⟨be,0,none⟩ .nilIface) b bo be x r from by
  have h1:=a0T ho1 v;have hg1:=a0e (xgr w1 (some bo)) 0 v;obtain⟨w2,hw2⟩:∃w2,w2=w1.setCell ⟨bo,0,none⟩ v:=⟨_,rfl⟩;rw[←hw2]at h1 hg1⊢;have he2:=(hg1.block be (by have:=hg.size;omega) (by simp;omega)).trans he1;have h2:=a0T he2 .nilIface;have hg2:=a0e (xgr w2 (some be)) 0 .nilIface;have hs:=hg.size;have hs1:=hg1.size;have hs2:=hg2.size;have hkk:∀k,k<w1.heap.size→k≠bo→k≠be→(w2.setCell ⟨be,0,none⟩ .nilIface).heap[k]?=w1.heap[k]?:=fun k h3 h4 h5=>(hg2.block k (by omega) (by simp;omega)).trans (hg1.block k h3 (by simp;omega))
  refine⟨po,v,S,(hg2.block bo (by omega) (by simp;omega)).trans h1,h2,ObjO.keep (fun k hk=>⟨hk,hkk k (hS k hk).2 (by have:=hS k hk;omega) (by have:=hS k hk;omega)⟩) _ _ hO,fun k hk=>by have:=hS k hk;omega,hC,(hkk b (by omega) (by omega) (by omega)).trans hL,hg2.os.trans (hg1.os.trans hg.os),hg2.tape.trans (hg1.tape.trans hg.tape),hg2.output.trans (hg1.output.trans hg.output),by omega,fun k h3 h4 h5 h6=>(hkk k (by omega) h5 h6).trans (hg.block k h3 (by simp;omega))⟩)
 have hno:=hO.nil_or;clear hO hS hC hL hg ho1 he1 hc;rcases hno with⟨_,rfl⟩|⟨_,t,u,rfl⟩
 ·go_wp2_with fail
  go_end0;exact⟨rfl,H.out⟩
 ·go_wp2_with fail
  go_end0;exact⟨rfl,H.out⟩
def a9o (nn:NQ)(n:Nat)(w w':World)(x:PV)(r:By)(e:Ending):Prop :=
 ∃po ks vs S,e=.returned (.tuple #[objV (a1f po) ks vs,.string (bs r),.bool true])∧IsO S w' (a1f po) ks vs∧(∀k,S k→w.heap.size≤k∧k<w'.heap.size)∧(Corr nn.1 n po x∧nn.2 po)∧w.grownBy w' none
theorem b8u (w:World)(o1 o2 o3 o4 o5:Obj):∃W,W=((((w.alloc o1).alloc o2).alloc o3).alloc o4).alloc o5∧W.heap[w.heap.size]?=some o1∧W.heap[w.heap.size+1]?=some o2∧W.heap[w.heap.size+1+1]?=some o3∧W.heap[w.heap.size+1+1+1]?=some o4∧W.heap[w.heap.size+1+1+1+1]?=some o5∧W.heap.size=w.heap.size+5∧w.grownBy W none:=by
 refine⟨_,rfl,?_,?_,?_,?_,?_,by simp,a0a (a0a (a0a (a0a (a0a (xgr w none) _) _) _) _) _⟩
 ·rw[Below.heap_alloc _ _ _ (by first|omega|(simp;omega)|simp),Below.heap_alloc _ _ _ (by first|omega|(simp;omega)|simp),Below.heap_alloc _ _ _ (by simp;omega),Below.heap_alloc _ _ _ (by simp)];exact heap_alloc_new _ _
 ·rw[Below.heap_alloc _ _ _ (by first|omega|(simp;omega)|simp),Below.heap_alloc _ _ _ (by first|omega|(simp;omega)|simp),Below.heap_alloc _ _ _ (by simp)]
  have:=heap_alloc_new (w.alloc o1) o2;simpa using this
 ·rw[Below.heap_alloc _ _ _ (by first|omega|(simp;omega)|simp),Below.heap_alloc _ _ _ (by simp)]
  have:=heap_alloc_new ((w.alloc o1).alloc o2) o3;simpa using this
 ·rw[Below.heap_alloc _ _ _ (by simp)]
  have:=heap_alloc_new (((w.alloc o1).alloc o2).alloc o3) o4;simpa using this
 ·have:=heap_alloc_new ((((w.alloc o1).alloc o2).alloc o3).alloc o4) o5
  simpa using this
theorem b4T {w5:World}{B:Nat}{v0 v1 v2 v3 v4 v5 v6 u5 u6:Value}{tmps:Array Value}{R:Ending→World→Prop}(h4:tmps.getD 4 undef=.pointer (some ⟨B,0,none⟩))(h5:tmps.getD 5 undef=u5)(h6:tmps.getD 6 undef=u6)
  (hz:w5.heap[B]?=some (.cells #[v0,v1,v2,v3,v4,v5,v6] 26 (0,0)))(hR:R (.returned (.tuple #[.agg #[v0,v1,v2,v3,v4,v5,v6],u5,u6])) w5):bodyPost Tryz.prog Tryz.f29 R Exit.ret { tmps:=tmps,defers:=[] } w5:=by
 obtain⟨y0,y1,y2,y3,y4,y5,y6,yf⟩:=a0n hz;simp only[Array.getD_eq_getD_getElem?]at h4 h5 h6;exact bodyPost_ret (v:=.tuple #[.agg #[v0,v1,v2,v3,v4,v5,v6],u5,u6]) (by simp[results,Tryz.results29,go_sem,h4,h5,h6,y0,y1,y2,y3,y4,y5,y6]) rfl hR
theorem b0N (pf:By→Nat)(nn:Nat→Prop)(W0:World)(n:Nat)(hC:ObjC pf nn W0 n)(hn:n≤100)(w:World)(hE:Env W0 w)(l:By)(x:PV)(r:By)(hl:l.length≤150000)(h:rdV pf n l false=some (x,r,false)) :
  Calls Tryz.prog 29 #[.string (bs l),.func (.func 30) #[] #[]] w fun e w'=>a9o (NS pf nn n l r) n w w' x r e:=by
 have hmf:∀(fn:Fn) (first cap:Array Value) (w:World),(Instr.makeFunc fn first cap).run Tryz.prog w=.ok (.func fn first cap) w:=fun _ _ _ _=>rfl;obtain⟨W5,hW5,q0,q1,q2,q3,q4,hsz,hG5⟩:=b8u w (.cells #[.func (.func 30) #[] #[]] 62) Z26 (.cells #[.string (bs l)] 9) (.cells #[.nilIface] 50) (.cells #[.nilIface] 92);have hG6:W5.grownBy (W5.alloc (.cells #[.bool false] 4)) none:=a0a (xgr _ _) _;have hkp:∀k o,W5.heap[k]?=some o→(W5.alloc (.cells #[.bool false] 4)).heap[k]?=some o:=fun k o hk=>(hG6.block k (xgl hk) (by simp)).trans hk;have hp:=a8R pf nn W0 n hC hn (W5.alloc (.cells #[.bool false] 4)) ((hE.grown0 hG5).grown0 hG6) (w.heap.size+1+1) l x r (hkp _ _ q2) hl (by have:=hE.1;omega) h;have h54:=b4N (NS pf nn n l r) n (W5.alloc (.cells #[.bool false] 4)) w.heap.size (w.heap.size+1+1) (w.heap.size+1+1+1) (w.heap.size+1+1+1+1) x r (hkp _ _ q0) (hkp _ _ q3) (hkp _ _ q4) (by omega) (by omega) hp
 have hcalm:=b3T W5 _ (fun w'=>b0Z (NS pf nn n l r) n (W5.alloc (.cells #[.bool false] 4)) w' (w.heap.size+1+1) (w.heap.size+1+1+1) (w.heap.size+1+1+1+1) x r) (h54.mono (by
  rintro e w'⟨rfl,hR⟩;refine⟨rfl,?_,hR⟩;obtain⟨po,v,S,_,_,_,_,_,_,_,_,_,_,hfr⟩:=hR
  exact(hfr W5.heap.size (by simp) (by omega) (by omega) (by omega)).trans (heap_alloc_new W5 _)))
 obtain⟨Hq1,HG5,Hsz⟩:=xh3 q1 hG5 hsz;rw[hW5]at hcalm;clear hC hE h hp h54 hkp hG6 q0 q1 q2 q3 q4 hG5 hsz;unfold Z26 at hcalm;go_enter Tryz.func29,Tryz.ntmps29;go_wp2_with fail
 refine hcalm.mono ?_;unfold Z26 at hW5;rw[←hW5];rintro e w2⟨rfl,w1,hR,hz,rfl⟩;obtain⟨po,v,S,ho,he,hO,hS,hCo,hL,hos,htp,hout,hsz1,hfr⟩:=hR;have hsz6:(W5.alloc (.cells #[.bool false] 4)).heap.size=w.heap.size+6:=by simp;exact Hsz.out
 have hs5:=Hsz.out;have hset:=a0e (xgr w1 (some W5.heap.size)) 0 (.bool true);obtain⟨w2,hw2⟩:∃w2,w2=w1.setCell ⟨W5.heap.size,0,none⟩ (.bool true):=⟨_,rfl⟩;rw[←hw2]at hset⊢;have hkk:∀k,k<w1.heap.size→k≠w.heap.size+5→w2.heap[k]?=w1.heap[k]?:=fun k h1 h2=>hset.block k h1 (by simp;omega)
 have hG2:w.grownBy w2 none:=by
  have hg5:=HG5.out;refine⟨hset.os.trans (hos.trans hg5.os),hset.tape.trans (htp.trans hg5.tape),hset.output.trans (hout.trans hg5.output),by have:=hset.size;omega,fun k hk _=>?_⟩;refine(hkk k (by omega) (by omega)).trans ((hfr k (by omega) (by omega) (by omega) (by omega)).trans ?_);exact(Below.heap_alloc _ _ _ (by omega)).trans (hg5.block k hk (by simp))
 have ho2:=(hkk _ (by omega) (by omega)).trans ho;have he2:=(hkk _ (by omega) (by omega)).trans he;have hL2:a0v w2 (w.heap.size+1+1) r:=(hkk _ (by omega) (by omega)).trans hL
 have hz2:w2.heap[w.heap.size+1]?=some Z26:=by
  refine(hkk _ (by omega) (by omega)).trans ((hfr _ (by omega) (by omega) (by omega) (by omega)).trans ?_);exact(Below.heap_alloc _ _ _ (by omega)).trans Hq1.out
 have hs2:w.heap.size+6≤w2.heap.size:=by have:=hset.size;omega
 have hO2:=ObjO.keep (S':=S) (fun k hk=>⟨hk,hkk k (hS k hk).2 (by have:=hS k hk;omega)⟩) _ _ hO;have htell:=b3j nn n po x S w2 v hCo.1 hO2 (fun k hk=>by have:=hS k hk;have:=hset.size;omega);have cv:w2.cell? ⟨w.heap.size+1+1+1,0,none⟩=some v:=by simp[World.cell?,ho2]
 have ce:w2.cell? ⟨w.heap.size+1+1+1+1,0,none⟩=some .nilIface:=by simp[World.cell?,he2]
 obtain⟨Hz2,HL2,HG2,Hs2,HCo⟩:=xh5 hz2 hL2 hG2 hs2 hCo;clear ho he hO hS hCo hL hos htp hout hsz1 hfr hsz6 hs5 hset hw2 hkk hG2 ho2 he2 hL2 hz2 hs2 hO2 hz hcalm hW5;go_wp2_with fail
 refine htell.mono ?_;rintro e w3⟨ks,vs,S3,rfl,hIs,hS3,hg3⟩;obtain⟨⟨ko,kn,kc,rfl⟩,⟨vo,vn,vc,rfl⟩⟩:=IsO.slices hIs;have hz3:=(hg3.block _ (by have:=Hs2.out;omega) (by simp)).trans Hz2.out;unfold Z26 at hz3;obtain⟨z0,z1,z2,z3,z4,z5,z6,zf⟩:=a0n hz3;have hL3:=HL2.out.keep hg3 (by simp);obtain⟨c3,f3⟩:=hL3.cell;obtain⟨Hz3,HIs,HS3⟩:=xh3 hz3 hIs hS3;have HG3:=xhd (HG2.out.trans hg3);obtain⟨Hsz3,HL3⟩:=xh2 hg3.size hL3;obtain⟨q,hq⟩:∃q,q=a1f po:=⟨_,rfl⟩;rw[←hq]at HIs⊢;have Hq:=xhd hq;clear hg3 hz3 hL3 hIs hS3 htell cv ce hq;unfold objV;go_wp2_with fail
 have hz4:=a3u Hz3.out (.int .i64 (kO q)) (.int .i64 (iO q)) (.int .i64 (gO q)) (.float .f64 (rO q)) (.string (bs (tO q))) (.slice ko kn kc) (.slice vo vn vc);have hk4:=fun k hk=>a1C w3 (w.heap.size+1) k (.int .i64 (kO q)) (.int .i64 (iO q)) (.int .i64 (gO q)) (.float .f64 (rO q)) (.string (bs (tO q))) (.slice ko kn kc) (.slice vo vn vc) hk;have hs4:=a1U w3 (w.heap.size+1) (.int .i64 (kO q)) (.int .i64 (iO q)) (.int .i64 (gO q)) (.float .f64 (rO q)) (.string (bs (tO q))) (.slice ko kn kc) (.slice vo vn vc);have hG4:=a3d HG3.out (B:=w.heap.size+1) (by omega) (.int .i64 (kO q)) (.int .i64 (iO q)) (.int .i64 (gO q)) (.float .f64 (rO q)) (.string (bs (tO q))) (.slice ko kn kc) (.slice vo vn vc);obtain⟨w4,hw4⟩:∃w4,w4=set7 w3 (w.heap.size+1) (.int .i64 (kO q)) (.int .i64 (iO q)) (.int .i64 (gO q)) (.float .f64 (rO q)) (.string (bs (tO q))) (.slice ko kn kc) (.slice vo vn vc):=⟨_,rfl⟩;rw[←hw4]at hz4 hk4 hs4 hG4;unfold set7 at hw4;rw[←hw4];have hL4:a0v w4 (w.heap.size+1+1) r:=(hk4 _ (by omega)).trans HL3.out;clear z0 z1 z2 z3 z4 z5 z6 zf c3 f3 hw4;obtain⟨z0,z1,z2,z3,z4,z5,z6,zf⟩:=a0n hz4;obtain⟨c4,f4⟩:=hL4.cell;obtain⟨Hz4,HG4⟩:=xh2 hz4 hG4;have Hk4:=xhd (And.intro hk4 hs4);clear hz4 hk4 hs4 hG4 hL4
 go_region
 have hz5:=a3u Hz4.out (.int .i64 (kO q)) (.int .i64 (iO q)) (.int .i64 (gO q)) (.float .f64 (rO q)) (.string (bs (tO q))) (.slice ko kn kc) (.slice vo vn vc);have hk5:=fun k hk=>a1C w4 (w.heap.size+1) k (.int .i64 (kO q)) (.int .i64 (iO q)) (.int .i64 (gO q)) (.float .f64 (rO q)) (.string (bs (tO q))) (.slice ko kn kc) (.slice vo vn vc) hk;have hs5:=a1U w4 (w.heap.size+1) (.int .i64 (kO q)) (.int .i64 (iO q)) (.int .i64 (gO q)) (.float .f64 (rO q)) (.string (bs (tO q))) (.slice ko kn kc) (.slice vo vn vc);have hG5:=a3d HG4.out (B:=w.heap.size+1) (by omega) (.int .i64 (kO q)) (.int .i64 (iO q)) (.int .i64 (gO q)) (.float .f64 (rO q)) (.string (bs (tO q))) (.slice ko kn kc) (.slice vo vn vc);obtain⟨w5,hw5⟩:∃w5,w5=set7 w4 (w.heap.size+1) (.int .i64 (kO q)) (.int .i64 (iO q)) (.int .i64 (gO q)) (.float .f64 (rO q)) (.string (bs (tO q))) (.slice ko kn kc) (.slice vo vn vc):=⟨_,rfl⟩;rw[←hw5]at hz5 hk5 hs5 hG5;unfold set7 at hw5;rw[←hw5];obtain⟨w6,hw6⟩:∃w6,w6=w5.drew:=⟨_,rfl⟩;have hh:w6.heap=w5.heap:=by rw[hw6];rfl
 have hG6:w.grownBy w6 none:=by rw[hw6];exact a0d hG5
 rw[←hw6];rw[←hh]at hz5 hk5 hs5;clear hw5 hw6 hG5;obtain⟨Hz5,HG6⟩:=xh2 hz5 hG6;have Hk5:=xhd (And.intro hk5 hs5);clear hz5 hk5 hs5 hG6 hh z0 z1 z2 z3 z4 z5 z6 zf;have y30:∀(a b c:Value),([a,b,c]:List Value)[0]?=some a:=fun _ _ _=>rfl;have y31:∀(a b c:Value),([a,b,c]:List Value)[1]?=some b:=fun _ _ _=>rfl;have y32:∀(a b c:Value),([a,b,c]:List Value)[2]?=some c:=fun _ _ _=>rfl;go_wp2_with fail
 refine b4T rfl rfl rfl Hz5.out ?_;have hs2:=Hs2.out;have hs3:=Hsz3.out;have hs4:=Hk4.out.2;have hs5:=Hk5.out.2;refine⟨po,.slice ko kn kc,.slice vo vn vc,S3,by rw[←Hq.out];rfl,?_,fun k hk=>by have:=HS3.out k hk;omega,HCo.out,HG6.out⟩;rw[←Hq.out]
 exact IsO.keep (fun k hk=>⟨hk,by
  have:=HS3.out k hk
  exact(Hk5.out.1 k (by omega)).trans (Hk4.out.1 k (by omega))⟩) _ _ _ HIs.out
theorem b2s {w5:World}{B:Nat}{v0 v1 v2 v3 v4 v5 v6 u5 u6:Value}{tmps:Array Value}{R:Ending→World→Prop}(h4:tmps.getD 2 undef=.pointer (some ⟨B,0,none⟩))(h5:tmps.getD 3 undef=u5)(h6:tmps.getD 4 undef=u6)
  (hz:w5.heap[B]?=some (.cells #[v0,v1,v2,v3,v4,v5,v6] 26 (0,0)))(hR:R (.returned (.tuple #[.agg #[v0,v1,v2,v3,v4,v5,v6],u5,u6])) w5):bodyPost Tryz.prog Tryz.f13 R Exit.ret { tmps:=tmps,defers:=[] } w5:=by
 obtain⟨y0,y1,y2,y3,y4,y5,y6,yf⟩:=a0n hz;simp only[Array.getD_eq_getD_getElem?]at h4 h5 h6;exact bodyPost_ret (v:=.tuple #[.agg #[v0,v1,v2,v3,v4,v5,v6],u5,u6]) (by simp[results,Tryz.results13,go_sem,h4,h5,h6,y0,y1,y2,y3,y4,y5,y6]) rfl hR
theorem a8Q (pf:By→Nat)(nn:Nat→Prop)(W0:World)(n:Nat)(hC:ObjC pf nn W0 n)(hn:n≤100)(w:World)(hE:Env W0 w)(l:By)(x:PV)(r:By)(hl:l.length≤150000)(h:rdV pf n l false=some (x,r,false)) :
  Calls Tryz.prog 13 #[.string (bs l)] w fun e w'=>a9o (NS pf nn n l r) n w w' x r e:=by
 have hz0:=heap_alloc_new w Z26;have hg0:w.grownBy (w.alloc Z26) none:=a0a (xgr w none) _;have hc:=b0N pf nn W0 n hC hn (w.alloc Z26) (hE.grown0 hg0) l x r hl h;have hs0:(w.alloc Z26).heap.size=w.heap.size+1:=by simp
 have Hs0:=xhd hs0;clear hC hE h hs0;unfold Z26 at *;go_enter Tryz.func13,Tryz.ntmps13;go_wp2_with fail
 refine hc.mono ?_;rintro e w3⟨po,ks,vs,S3,rfl,hIs,hS3,hCo,hg3⟩;obtain⟨⟨ko,kn,kc,rfl⟩,⟨vo,vn,vc,rfl⟩⟩:=IsO.slices hIs;have hz3:=(hg3.block _ (by simp) (by simp)).trans hz0;obtain⟨z0,z1,z2,z3,z4,z5,z6,zf⟩:=a0n hz3;obtain⟨Hz3,HIs,HS3,HCo⟩:=xh4 hz3 hIs hS3 hCo;have HG3:=xhd (hg0.trans hg3);obtain⟨q,hq⟩:∃q,q=a1f po:=⟨_,rfl⟩;rw[←hq]at HIs⊢;have Hq:=xhd hq;clear hg3 hz3 hIs hS3 hq hg0 hz0 hc hCo;unfold objV;have y30:∀(a b c:Value),([a,b,c]:List Value)[0]?=some a:=fun _ _ _=>rfl;have y31:∀(a b c:Value),([a,b,c]:List Value)[1]?=some b:=fun _ _ _=>rfl;have y32:∀(a b c:Value),([a,b,c]:List Value)[2]?=some c:=fun _ _ _=>rfl;go_wp2_with fail
 have hz4:=a3u Hz3.out (.int .i64 (kO q)) (.int .i64 (iO q)) (.int .i64 (gO q)) (.float .f64 (rO q)) (.string (bs (tO q))) (.slice ko kn kc) (.slice vo vn vc);have hk4:=fun k hk=>a1C w3 w.heap.size k (.int .i64 (kO q)) (.int .i64 (iO q)) (.int .i64 (gO q)) (.float .f64 (rO q)) (.string (bs (tO q))) (.slice ko kn kc) (.slice vo vn vc) hk;have hs4:=a1U w3 w.heap.size (.int .i64 (kO q)) (.int .i64 (iO q)) (.int .i64 (gO q)) (.float .f64 (rO q)) (.string (bs (tO q))) (.slice ko kn kc) (.slice vo vn vc);have hG4:=a3d HG3.out (B:=w.heap.size) (Nat.le_refl _) (.int .i64 (kO q)) (.int .i64 (iO q)) (.int .i64 (gO q)) (.float .f64 (rO q)) (.string (bs (tO q))) (.slice ko kn kc) (.slice vo vn vc);obtain⟨w4,hw4⟩:∃w4,w4=set7 w3 w.heap.size (.int .i64 (kO q)) (.int .i64 (iO q)) (.int .i64 (gO q)) (.float .f64 (rO q)) (.string (bs (tO q))) (.slice ko kn kc) (.slice vo vn vc):=⟨_,rfl⟩;rw[←hw4]at hz4 hk4 hs4 hG4;unfold set7 at hw4;rw[←hw4];refine b2s rfl rfl rfl hz4 ?_;have hs0:=Hs0.out;refine⟨po,.slice ko kn kc,.slice vo vn vc,S3,by rw[←Hq.out];rfl,?_,fun k hk=>by have:=HS3.out k hk;omega,HCo.out,hG4⟩;rw[←Hq.out];exact IsO.keep (fun k hk=>⟨hk,hk4 k (by have:=HS3.out k hk;omega)⟩) _ _ _ HIs.out
end Go.Proofs.YtfkecmlmnhbmoaaGreatDoor
