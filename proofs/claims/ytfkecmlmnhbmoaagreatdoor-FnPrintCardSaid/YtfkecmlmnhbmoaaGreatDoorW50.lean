/- Parts Q9 Q10 Q12 Q13 R5. -/
import Derived.Test.YtfkecmlmnhbmoaaGreatDoorW46
import Derived.Test.YtfkecmlmnhbmoaaGreatDoorW47
set_option linter.unusedVariables false
set_option linter.unusedSimpArgs false
set_option maxRecDepth 100000
set_option maxHeartbeats 40000000
namespace Go.Proofs.YtfkecmlmnhbmoaaGreatDoor
open Go Go.RowKit Go.Maps Go.Lib
theorem lvPs_le:∀(ps:List PO) (p:PO),p∈ps→lvP p≤lvPs ps
 | [],p,h=>by simp at h
 | q::ps,p,h=>by
  simp only[lvPs];rcases List.mem_cons.1 h with e|e
  ·subst e;omega
  ·have:=lvPs_le ps p e;omega
theorem prc_all (ff:Nat→By)(R:Nat→Prop)(W0:World)(hT:TabIs Tryz.prog W0 "internal/strconv.uint64pow10" .u64 pow10Tab)(hR:∀x,R x→FfC W0 x (ff x)):∀(n:Nat) (p:PO),lvP p≤n→PrC ff R W0 p:=by
 intro n
 induction n with
 | zero=>intro p h;cases p<;>simp[lvP]at h
 | succ n ih =>
  intro p h
  cases p with
  | arr ks=>exact parr ff R W0 ks fun q hq=>ih q (by have:=lvPs_le ks q hq;simp only[lvP]at h;omega)
  | dict ks vs=>exact pdict ff R W0 ks vs fun q hq=>ih q (by have:=lvPs_le vs q hq;simp only[lvP]at h;omega)
  | _=>exact prc_leaf ff R W0 hT hR _ (by simp) (by simp)
theorem calm23 (w:World)(args:Array Value)(R:World→Prop)(hF:Calls Tryz.prog 23 args (w.alloc (.cells #[.bool false] 4)) fun e w'=>e=.returned (.tuple #[])∧w'.heap[w.heap.size]?=some (.cells #[.bool false] 4 (0,0))∧R w') :
  Calls Tryz.prog 22 #[.func (.func 23) #[] args] w fun e w'=>e=.returned (.bool true)∧∃w1,R w1∧w1.heap[w.heap.size]?=some (.cells #[.bool false] 4 (0,0))∧w'=w1.setCell ⟨w.heap.size,0,none⟩ (.bool true):=by
 have hmf:∀(fn:Fn) (first cap:Array Value) (w:World),(Instr.makeFunc fn first cap).run Tryz.prog w=.ok (.func fn first cap) w:=fun _ _ _ _=>rfl
 go_enter_defers Tryz.func22,Tryz.ntmps22
 go_wp2_with fail
 refine hF.mono ?_;rintro e w1⟨rfl,hz,hR⟩;have c1:w1.cell? ⟨w.heap.size,0,none⟩=some (.bool false):=by simp[World.cell?,hz]
 have f1:w1.frozen? ⟨w.heap.size,0,none⟩=false:=by simp[World.frozen?,hz]
 have HR:=xhd (And.intro hR hz);clear hF hR hz;go_wp2_with fail
 refine leaves_cons (f:=41) (args:=#[.pointer (some ⟨w.heap.size,0,none⟩)]) (by simp) (by simp[go_sem]) ?_;refine(calm_idle ⟨w.heap.size,0,none⟩ _).mono ?_;rintro e u' w''⟨rfl,rfl,rfl⟩;have hz2:=cells1_set HR.out.2 (.bool true);refine Exists.intro (.bool true) ⟨by simp[results,Tryz.results22,go_sem,World.cell?,hz2],?_⟩;exact⟨rfl,w1,HR.out.1,HR.out.2,rfl⟩
@[go_sem] theorem meth_66 (u:Value)(w:World):(method 465 66 u "PDFString").run Tryz.prog w=.ok (260,u) w:=by kernel_rfl
@[go_sem] theorem meth_67 (u:Value)(w:World):(method 465 67 u "PDFString").run Tryz.prog w=.ok (265,u) w:=by kernel_rfl
@[go_sem] theorem meth_68 (u:Value)(w:World):(method 465 68 u "PDFString").run Tryz.prog w=.ok (268,u) w:=by kernel_rfl
@[go_sem] theorem meth_69 (u:Value)(w:World):(method 465 69 u "PDFString").run Tryz.prog w=.ok (271,u) w:=by kernel_rfl
@[go_sem] theorem meth_70 (u:Value)(w:World):(method 465 70 u "PDFString").run Tryz.prog w=.ok (274,u) w:=by kernel_rfl
@[go_sem] theorem meth_71 (u:Value)(w:World):(method 465 71 u "PDFString").run Tryz.prog w=.ok (277,u) w:=by kernel_rfl
@[go_sem] theorem meth_73 (u:Value)(w:World):(method 465 73 u "PDFString").run Tryz.prog w=.ok (285,u) w:=by kernel_rfl
@[go_sem] theorem meth_77 (u:Value)(w:World):(method 465 77 u "PDFString").run Tryz.prog w=.ok (287,u) w:=by kernel_rfl
@[go_sem] theorem meth_81 (u:Value)(w:World):(method 465 81 u "PDFString").run Tryz.prog w=.ok (288,u) w:=by kernel_rfl
def P23 (w w':World)(bt:Nat)(t:ByteArray)(e:Ending):Prop:=e=.returned (.tuple #[])∧w'.heap[bt]?=some (.cells #[.string t] 9 (0,0))∧w.grownBy w' (some bt)
theorem pr23 (p:PO)(hp:p≠.null)(t:By)(u:Value)(bo bt:Nat)(w:World)(ho:w.heap[bo]?=some (.cells #[.iface (tyP p) u] 50 (0,0)))(ht:w.heap[bt]?=some (.cells #[.string ⟨#[]⟩] 9 (0,0)))
  (hc:Calls Tryz.prog (fnP p) #[u] w fun e w'=>e=.returned (.string (bs t))∧w.grownBy w' none) :
  Calls Tryz.prog 23 #[.pointer (some ⟨bo,0,none⟩),.pointer (some ⟨bt,0,none⟩)] w fun e w'=>P23 w w' bt (bs t) e:=by
 have c1:w.cell? ⟨bo,0,none⟩=some (.iface (tyP p) u):=by simp[World.cell?,ho]
 have hbt:=(xgl ht);obtain⟨Ht,Hc⟩:=xh2 ht hc;clear ho ht hc;generalize bs t=z at *
 cases p with
 | null=>exact absurd rfl hp
 | bool x =>
  clear hp;have c2:w.cell? ⟨bo,0,none⟩=some (.iface 66 u):=c1;have Hd:=xhd (show Calls Tryz.prog 260 _ _ _ from Hc.out);clear c1 Hc
  skip
  go_enter Tryz.func23,Tryz.ntmps23;go_wp2_with fail
  refine Hd.out.mono ?_;rintro e w2⟨rfl,hg2⟩;have ht2:=(hg2.block bt hbt (by simp)).trans Ht.out;have d1:w2.cell? ⟨bt,0,none⟩=some (.string ⟨#[]⟩):=by simp[World.cell?,ht2]
  have d2:w2.frozen? ⟨bt,0,none⟩=false:=by simp[World.frozen?,ht2]
  obtain⟨Hg2,Ht2⟩:=xh2 hg2 ht2;clear hg2 ht2;go_wp2_with fail
  go_end0;exact⟨rfl,cells1_set Ht2.out _,gr_set (World.grownBy.trans ⟨Hg2.out.os,Hg2.out.tape,Hg2.out.output,Hg2.out.size,fun k hk _=>Hg2.out.block k hk (by simp)⟩ (xgr _ _)) 0 _⟩
 | int x =>
  clear hp;have c2:w.cell? ⟨bo,0,none⟩=some (.iface 67 u):=c1;have Hd:=xhd (show Calls Tryz.prog 265 _ _ _ from Hc.out);clear c1 Hc
  skip
  go_enter Tryz.func23,Tryz.ntmps23;go_wp2_with fail
  refine Hd.out.mono ?_;rintro e w2⟨rfl,hg2⟩;have ht2:=(hg2.block bt hbt (by simp)).trans Ht.out;have d1:w2.cell? ⟨bt,0,none⟩=some (.string ⟨#[]⟩):=by simp[World.cell?,ht2]
  have d2:w2.frozen? ⟨bt,0,none⟩=false:=by simp[World.frozen?,ht2]
  obtain⟨Hg2,Ht2⟩:=xh2 hg2 ht2;clear hg2 ht2;go_wp2_with fail
  go_end0;exact⟨rfl,cells1_set Ht2.out _,gr_set (World.grownBy.trans ⟨Hg2.out.os,Hg2.out.tape,Hg2.out.output,Hg2.out.size,fun k hk _=>Hg2.out.block k hk (by simp)⟩ (xgr _ _)) 0 _⟩
 | real x =>
  clear hp;have c2:w.cell? ⟨bo,0,none⟩=some (.iface 68 u):=c1;have Hd:=xhd (show Calls Tryz.prog 268 _ _ _ from Hc.out);clear c1 Hc
  skip
  go_enter Tryz.func23,Tryz.ntmps23;go_wp2_with fail
  refine Hd.out.mono ?_;rintro e w2⟨rfl,hg2⟩;have ht2:=(hg2.block bt hbt (by simp)).trans Ht.out;have d1:w2.cell? ⟨bt,0,none⟩=some (.string ⟨#[]⟩):=by simp[World.cell?,ht2]
  have d2:w2.frozen? ⟨bt,0,none⟩=false:=by simp[World.frozen?,ht2]
  obtain⟨Hg2,Ht2⟩:=xh2 hg2 ht2;clear hg2 ht2;go_wp2_with fail
  go_end0;exact⟨rfl,cells1_set Ht2.out _,gr_set (World.grownBy.trans ⟨Hg2.out.os,Hg2.out.tape,Hg2.out.output,Hg2.out.size,fun k hk _=>Hg2.out.block k hk (by simp)⟩ (xgr _ _)) 0 _⟩
 | lit x =>
  clear hp;have c2:w.cell? ⟨bo,0,none⟩=some (.iface 69 u):=c1;have Hd:=xhd (show Calls Tryz.prog 271 _ _ _ from Hc.out);clear c1 Hc
  skip
  go_enter Tryz.func23,Tryz.ntmps23;go_wp2_with fail
  refine Hd.out.mono ?_;rintro e w2⟨rfl,hg2⟩;have ht2:=(hg2.block bt hbt (by simp)).trans Ht.out;have d1:w2.cell? ⟨bt,0,none⟩=some (.string ⟨#[]⟩):=by simp[World.cell?,ht2]
  have d2:w2.frozen? ⟨bt,0,none⟩=false:=by simp[World.frozen?,ht2]
  obtain⟨Hg2,Ht2⟩:=xh2 hg2 ht2;clear hg2 ht2;go_wp2_with fail
  go_end0;exact⟨rfl,cells1_set Ht2.out _,gr_set (World.grownBy.trans ⟨Hg2.out.os,Hg2.out.tape,Hg2.out.output,Hg2.out.size,fun k hk _=>Hg2.out.block k hk (by simp)⟩ (xgr _ _)) 0 _⟩
 | hexl x =>
  clear hp;have c2:w.cell? ⟨bo,0,none⟩=some (.iface 70 u):=c1;have Hd:=xhd (show Calls Tryz.prog 274 _ _ _ from Hc.out);clear c1 Hc
  skip
  go_enter Tryz.func23,Tryz.ntmps23;go_wp2_with fail
  refine Hd.out.mono ?_;rintro e w2⟨rfl,hg2⟩;have ht2:=(hg2.block bt hbt (by simp)).trans Ht.out;have d1:w2.cell? ⟨bt,0,none⟩=some (.string ⟨#[]⟩):=by simp[World.cell?,ht2]
  have d2:w2.frozen? ⟨bt,0,none⟩=false:=by simp[World.frozen?,ht2]
  obtain⟨Hg2,Ht2⟩:=xh2 hg2 ht2;clear hg2 ht2;go_wp2_with fail
  go_end0;exact⟨rfl,cells1_set Ht2.out _,gr_set (World.grownBy.trans ⟨Hg2.out.os,Hg2.out.tape,Hg2.out.output,Hg2.out.size,fun k hk _=>Hg2.out.block k hk (by simp)⟩ (xgr _ _)) 0 _⟩
 | name x =>
  clear hp;have c2:w.cell? ⟨bo,0,none⟩=some (.iface 71 u):=c1;have Hd:=xhd (show Calls Tryz.prog 277 _ _ _ from Hc.out);clear c1 Hc
  skip
  go_enter Tryz.func23,Tryz.ntmps23;go_wp2_with fail
  refine Hd.out.mono ?_;rintro e w2⟨rfl,hg2⟩;have ht2:=(hg2.block bt hbt (by simp)).trans Ht.out;have d1:w2.cell? ⟨bt,0,none⟩=some (.string ⟨#[]⟩):=by simp[World.cell?,ht2]
  have d2:w2.frozen? ⟨bt,0,none⟩=false:=by simp[World.frozen?,ht2]
  obtain⟨Hg2,Ht2⟩:=xh2 hg2 ht2;clear hg2 ht2;go_wp2_with fail
  go_end0;exact⟨rfl,cells1_set Ht2.out _,gr_set (World.grownBy.trans ⟨Hg2.out.os,Hg2.out.tape,Hg2.out.output,Hg2.out.size,fun k hk _=>Hg2.out.block k hk (by simp)⟩ (xgr _ _)) 0 _⟩
 | ref x y =>
  clear hp;have c2:w.cell? ⟨bo,0,none⟩=some (.iface 73 u):=c1;have Hd:=xhd (show Calls Tryz.prog 285 _ _ _ from Hc.out);clear c1 Hc
  skip
  go_enter Tryz.func23,Tryz.ntmps23;go_wp2_with fail
  refine Hd.out.mono ?_;rintro e w2⟨rfl,hg2⟩;have ht2:=(hg2.block bt hbt (by simp)).trans Ht.out;have d1:w2.cell? ⟨bt,0,none⟩=some (.string ⟨#[]⟩):=by simp[World.cell?,ht2]
  have d2:w2.frozen? ⟨bt,0,none⟩=false:=by simp[World.frozen?,ht2]
  obtain⟨Hg2,Ht2⟩:=xh2 hg2 ht2;clear hg2 ht2;go_wp2_with fail
  go_end0;exact⟨rfl,cells1_set Ht2.out _,gr_set (World.grownBy.trans ⟨Hg2.out.os,Hg2.out.tape,Hg2.out.output,Hg2.out.size,fun k hk _=>Hg2.out.block k hk (by simp)⟩ (xgr _ _)) 0 _⟩
 | arr x =>
  clear hp;have c2:w.cell? ⟨bo,0,none⟩=some (.iface 77 u):=c1;have Hd:=xhd (show Calls Tryz.prog 287 _ _ _ from Hc.out);clear c1 Hc
  skip
  go_enter Tryz.func23,Tryz.ntmps23;go_wp2_with fail
  refine Hd.out.mono ?_;rintro e w2⟨rfl,hg2⟩;have ht2:=(hg2.block bt hbt (by simp)).trans Ht.out;have d1:w2.cell? ⟨bt,0,none⟩=some (.string ⟨#[]⟩):=by simp[World.cell?,ht2]
  have d2:w2.frozen? ⟨bt,0,none⟩=false:=by simp[World.frozen?,ht2]
  obtain⟨Hg2,Ht2⟩:=xh2 hg2 ht2;clear hg2 ht2;go_wp2_with fail
  go_end0;exact⟨rfl,cells1_set Ht2.out _,gr_set (World.grownBy.trans ⟨Hg2.out.os,Hg2.out.tape,Hg2.out.output,Hg2.out.size,fun k hk _=>Hg2.out.block k hk (by simp)⟩ (xgr _ _)) 0 _⟩
 | dict x y =>
  clear hp;have c2:w.cell? ⟨bo,0,none⟩=some (.iface 81 u):=c1;have Hd:=xhd (show Calls Tryz.prog 288 _ _ _ from Hc.out);clear c1 Hc
  skip
  go_enter Tryz.func23,Tryz.ntmps23;go_wp2_with fail
  refine Hd.out.mono ?_;rintro e w2⟨rfl,hg2⟩;have ht2:=(hg2.block bt hbt (by simp)).trans Ht.out;have d1:w2.cell? ⟨bt,0,none⟩=some (.string ⟨#[]⟩):=by simp[World.cell?,ht2]
  have d2:w2.frozen? ⟨bt,0,none⟩=false:=by simp[World.frozen?,ht2]
  obtain⟨Hg2,Ht2⟩:=xh2 hg2 ht2;clear hg2 ht2;go_wp2_with fail
  go_end0;exact⟨rfl,cells1_set Ht2.out _,gr_set (World.grownBy.trans ⟨Hg2.out.os,Hg2.out.tape,Hg2.out.output,Hg2.out.size,fun k hk _=>Hg2.out.block k hk (by simp)⟩ (xgr _ _)) 0 _⟩
def PrPost (ff:Nat→By)(p:PO)(w w':World)(e:Ending):Prop:=e=.returned (.tuple #[.string (bs (prP ff p)),.bool true])∧w.grownBy w' none
theorem pr_ret {w5:World}{bt:Nat}{z:ByteArray}{tmps:Array Value}{R:Ending→World→Prop}(h2:tmps.getD 2 undef=.pointer (some ⟨bt,0,none⟩))(h3:tmps.getD 3 undef=.bool true)
  (hz:w5.heap[bt]?=some (.cells #[.string z] 9 (0,0)))(hR:R (.returned (.tuple #[.string z,.bool true])) w5):bodyPost Tryz.prog Tryz.f9 R Exit.ret { tmps:=tmps,defers:=[] } w5:=by
 have c2:w5.cell? ⟨bt,0,none⟩=some (.string z):=by simp[World.cell?,hz]
 simp only[Array.getD_eq_getD_getElem?]at h2 h3;exact bodyPost_ret (v:=.tuple #[.string z,.bool true]) (by simp[results,Tryz.results9,go_sem,h2,h3,c2]) rfl hR
theorem print_any (ff:Nat→By)(R:Nat→Prop)(W0:World)(hT:TabIs Tryz.prog W0 "internal/strconv.uint64pow10" .u64 pow10Tab)(hR:∀x,R x→FfC W0 x (ff x))(p:PO)(o:OB)(himg:Img p o)(hok:okR ff R p)(hsr:srP p)(hfw:fwB o≤20000)(hnn:p≠.null)(hlen:(prP ff p).length≤1000000000)(S:Nat→Prop)(w:World)(ks vs:Value)(hI:IsB S w o ks vs)(hS:∀k,S k→k<w.heap.size)(hE:Env W0 w) :
  Calls Tryz.prog 9 #[obV o ks vs] w fun e w'=>PrPost ff p w w' e:=by
 have hob:=ob_all ff R _ p o (Nat.le_refl _) himg hok hfw;have hpc:=prc_all ff R W0 hT hR _ p (Nat.le_refl _);have hmf:∀(fn:Fn) (first cap:Array Value) (w:World),(Instr.makeFunc fn first cap).run Tryz.prog w=.ok (.func fn first cap) w:=fun _ _ _ _=>rfl;obtain⟨ko,kc,vo,vc,rfl,rfl,-⟩:=hI.view;have hcall:=fun (w2:World) (hg2:w.grownBy w2 none)=>hob S w2 _ _ (IsB.keep (S':=S) (fun k hk=>⟨hk,hg2.block k (hS k hk) (by simp)⟩) _ _ _ hI) (fun k hk=>Nat.lt_of_lt_of_le (hS k hk) hg2.size);unfold obV at *;obtain⟨Hcall,Hpc,HE,Hok,Hsr,Hlen⟩:=xh6 hcall hpc hE hok hsr hlen;clear hcall hpc hE hob hT hR himg hok hsr hlen hfw hI hS;generalize o.k=k1 at *;generalize o.i=k2 at *;generalize o.g=k3 at *;generalize o.r=k4 at *;generalize bs o.t=k5 at *;generalize o.keys.length=k6 at *;generalize o.kids.length=k7 at *;go_enter Tryz.func9,Tryz.ntmps9;go_wp2_with fail
 obtain⟨a0,a1⟩:=alloc2 w w.heap.size rfl (.cells #[.int .i64 k1,.int .i64 k2,.int .i64 k3,.float .f64 k4,.string k5,.slice ko k6 kc,.slice vo k7 vc] 26) (.cells #[.string ⟨#[]⟩] 9);obtain⟨Wa,hWa⟩:∃Wa,Wa=(w.alloc (.cells #[.int .i64 k1,.int .i64 k2,.int .i64 k3,.float .f64 k4,.string k5,.slice ko k6 kc,.slice vo k7 vc] 26)).alloc (.cells #[.string ⟨#[]⟩] 9):=⟨_,rfl⟩;have hga:w.grownBy Wa none:=by rw[hWa];exact gr_alloc (gr_alloc (xgr _ _) _) _
 have hsz:Wa.heap.size=w.heap.size+2:=by rw[hWa];simp
 rw[←hWa]at a0 a1⊢;refine(Hcall.out Wa hga).mono ?_;rintro e w2⟨v,S3,rfl,hO,hS3,hg2⟩;have hb2:=(hg2.block _ (xgl a1) (by simp)).trans a1;have hs2:=hg2.size;have hno:=hO.nil_or;have Hga:=xhd (hga.trans hg2);obtain⟨HO,HS3,Hb2⟩:=xh3 hO hS3 hb2;rcases hno with⟨hn,_⟩|⟨_,ty,u,rfl⟩
 ·exact absurd hn hnn
 clear a0 a1 hWa hga hg2 hO hS3 hb2;obtain⟨W3,hW3⟩:∃W3,W3=w2.alloc (.cells #[.iface ty u] 50):=⟨_,rfl⟩;obtain⟨W4,hW4⟩:∃W4,W4=W3.alloc (.cells #[.bool false] 4):=⟨_,rfl⟩;have hg3:w2.grownBy W3 none:=by rw[hW3];exact gr_alloc (xgr _ _) _
 have hg4:W3.grownBy W4 none:=by rw[hW4];exact gr_alloc (xgr _ _) _
 have hz3:W3.heap[w2.heap.size]?=some (.cells #[.iface ty u] 50 (0,0)):=by rw[hW3];exact heap_alloc_new _ _
 have hs3:W3.heap.size=w2.heap.size+1:=by rw[hW3];simp
 have hs4:W4.heap.size=W3.heap.size+1:=by rw[hW4];simp
 have hz4:=(hg4.block _ (by omega) (by simp)).trans hz3;have hb4:W4.heap[w.heap.size+1]?=_:=((hg3.trans hg4).block _ (by omega) (by simp)).trans Hb2.out;have hn4:W4.heap[W3.heap.size]?=some (.cells #[.bool false] 4 (0,0)):=by rw[hW4];exact heap_alloc_new _ _
 obtain⟨u',hu',hc4⟩:=Hpc.out S3 W4 (.iface ty u) (ObjO.keep (S':=S3) (fun k hk=>⟨hk,(hg3.trans hg4).block k (HS3.out k hk).2 (by simp)⟩) _ _ HO.out) (fun k hk=>by have:=(HS3.out k hk).2;omega) (HE.out.grown0 (Hga.out.trans (hg3.trans hg4))) Hok.out Hsr.out Hlen.out hnn;injection hu' with hu1 hu2;subst hu2;have hz5:=hz4;rw[hu1]at hz5;have h23:=pr23 p hnn _ u w2.heap.size (w.heap.size+1) W4 hz5 hb4 hc4
 have hcalm:=calm23 W3 #[.pointer (some ⟨w2.heap.size,0,none⟩),.pointer (some ⟨w.heap.size+1,0,none⟩)] (fun w'=>W4.grownBy w' (some (w.heap.size+1))∧w'.heap[w.heap.size+1]?=some (.cells #[.string (bs (prP ff p))] 9 (0,0))) (by
  rw[←hW4];refine h23.mono ?_;rintro e w'⟨rfl,h1,h2⟩
  exact⟨rfl,(h2.block _ (by omega) (by simp;omega)).trans hn4,h2,h1⟩)
 have Hcalm:=xhd hcalm;have Hg34:=xhd (Hga.out.trans (hg3.trans hg4));have Hss:=xhd (And.intro hs3 (And.intro hs4 hsz));have Hs2:=xhd hs2;have cz:W3.cell? ⟨w2.heap.size,0,none⟩=some (.iface ty u):=by simp[World.cell?,hz3]
 clear hg3 hg4 hz3 hs3 hs4 hz4 hb4 hn4 hc4 hu1 hz5 h23 hcalm hsz hs2 Hb2 HO HS3 Hok Hsr Hlen HE Hpc Hcall hW4
 go_upto_region 2 with (fail)
 rw[←hW3];clear hW3;go_wp2_with fail
 refine Hcalm.out.mono ?_;rintro e w'⟨rfl,w5,⟨hg5,hb5⟩,hz5,rfl⟩;have s5:=hg5.size;have hset:=gr_set (xgr w5 (some W3.heap.size)) 0 (.bool true);obtain⟨w6,hw6⟩:∃w6,w6=w5.setCell ⟨W3.heap.size,0,none⟩ (.bool true):=⟨_,rfl⟩;rw[←hw6]at hset⊢;have hss:=Hss.out;have hs2:=Hs2.out;have hb6:=(hset.block _ (by omega) (by simp;omega)).trans hb5
 have hg6:w.grownBy w6 none:=by
  have h1:=gr_noneThen Hg34.out hg5 (fun k hk=>by injection hk with hk;omega);exact gr_noneThen h1 hset (fun k hk=>by injection hk with hk;have:=Hg34.out.size;omega)
 have c6:w6.cell? ⟨w.heap.size+1,0,none⟩=some (.string (bs (prP ff p))):=by simp[World.cell?,hb6]
 have f6:w6.frozen? ⟨w.heap.size+1,0,none⟩=false:=by simp[World.frozen?,hb6]
 obtain⟨Hb6,Hg6⟩:=xh2 hb6 hg6;obtain⟨zz,hzz⟩:∃z,z=bs (prP ff p):=⟨_,rfl⟩;rw[←hzz]at c6 Hb6;have Hzz:=xhd hzz;clear hzz hb6 hg6 hset hw6 hz5 hb5 hg5 s5 hss hs2 Hss Hs2 Hg34 Hcalm;go_wp2_with fail
 refine pr_ret rfl rfl (cells1_set Hb6.out _) ?_;exact⟨by rw[Hzz.out],gr_noneThen Hg6.out (gr_set (xgr w6 (some (w.heap.size+1))) 0 _) (fun k hk=>by injection hk with hk;omega)⟩
end Go.Proofs.YtfkecmlmnhbmoaaGreatDoor
namespace Go.Proofs.YtfkecmlmnhbmoaaGreatDoor
theorem encN_len:∀q:By,(encN q).length≤3*q.length
 | []=>by simp[encN]
 | d::q=>by have:=encN_len q;simp only[encN];split<;>simp<;>omega
mutual
theorem lv_val:∀p:PO,lvV (valP p)=lvP p
 | .arr ks=>by simp only[valP,lvV,lvP,lvs_val ks]
 | .dict ks vs=>by simp only[valP,lvV,lvP,lvs_val vs]
 | .null=>rfl
 | .bool _=>rfl
 | .int _=>rfl
 | .real _=>rfl
 | .lit _=>rfl
 | .hexl _=>rfl
 | .name _=>rfl
 | .ref _ _=>rfl
theorem lvs_val:∀ps:List PO,lvVs (valPs ps)=lvPs ps
 | []=>rfl
 | p::ps=>by simp only[valPs,lvVs,lvPs,lv_val p,lvs_val ps]
end
mutual
theorem pr_len (ff:Nat→By)(R:Nat→Prop):∀(p:PO) (o:OB),Img p o→okR ff R p→(prP ff p).length+100≤200*fwB o
 | .null,.mk k i g x t keys kids,_,_=>by simp only[prP,wNull,fwB];simp;omega
 | .bool b,.mk k i g x t keys kids,_,_=>by cases b<;>(simp[prP,wTrue,wFalse,fwB];omega)
 | .int n,.mk k i g x t keys kids,_,h=>by
  simp only[okR]at h;have:=Lib.itoa_length_le n (by omega) (by omega);simp only[prP,fwB];omega
 | .real x,.mk k i g x' t keys kids,_,h=>by
  simp only[okR]at h;have:=numOk_len h.1;simp only[prP,fwB];omega
 | .lit s,.mk k i g x t keys kids,hI,_=>by
  simp only[Img,OB.t]at hI;obtain⟨_,rfl⟩:=hI;simp only[prP,fwB,List.length_cons,List.length_append,List.length_nil];omega
 | .hexl s,.mk k i g x t keys kids,hI,_=>by
  simp only[Img,OB.t]at hI;obtain⟨_,rfl⟩:=hI;simp only[prP,fwB,List.length_cons,List.length_append,List.length_nil];omega
 | .name s,.mk k i g x t keys kids,hI,_=>by
  simp only[Img,OB.t]at hI;obtain⟨_,rfl⟩:=hI;have:=encN_len t;simp only[prP,fwB,List.length_cons]
  split<;>simp<;>omega
 | .ref n g',.mk k i g x t keys kids,_,h=>by
  simp only[okR]at h;have:=Lib.itoa_length_le n (by omega) (by omega);have:=Lib.itoa_length_le g' (by omega) (by omega);simp only[prP,fwB,List.length_cons,List.length_append,List.length_nil];omega
 | .arr ps,.mk k i g x t keys kids,hI,h=>by
  simp only[Img,OB.kids]at hI;simp only[okR]at h;have:=prAs_len ff R ps kids hI.2 h true;simp only[prP,fwB,List.length_cons,List.length_append,List.length_nil];omega
 | .dict ks ps,.mk k i g x t keys kids,hI,h=>by
  simp only[Img,OB.kids,OB.keys]at hI;simp only[okR]at h;obtain⟨_,rfl,hI⟩:=hI;have:=prDs_len ff R keys ps kids hI h.2.2.2;simp only[prP,fwB,List.length_cons,List.length_append,List.length_nil];omega
theorem prAs_len (ff:Nat→By)(R:Nat→Prop):∀(ps:List PO) (os:List OB),Imgs ps os→okRs ff R ps→∀b:Bool,(prAs ff b ps).length≤200*fwBs os
 | [],os,_,_,b=>by simp[prAs]
 | p::ps,os,hI,h,b=>by
  simp only[Imgs]at hI;obtain⟨o,os',rfl,h1,h2⟩:=hI;simp only[okRs]at h;have a1:=pr_len ff R p o h1 h.1;have a2:=prAs_len ff R ps os' h2 h.2 false;have a3:(spc (!b&&sepA p)).length≤1:=by cases (!b&&sepA p)<;>simp[spc]
  simp only[prAs,fwBs,List.length_append];omega
theorem prDs_len (ff:Nat→By)(R:Nat→Prop):∀(keys:List By) (ps:List PO) (os:List OB),Imgs ps os→okRs ff R ps→(prDs ff keys ps).length≤200*(keys.map fun k=>k.length/16).sum+200*fwBs os
 | [],_,os,_,_=>by simp[prDs]
 | _::_,[],os,_,_=>by simp[prDs]
 | k::ks,p::ps,os,hI,h=>by
  simp only[Imgs]at hI;obtain⟨o,os',rfl,h1,h2⟩:=hI;simp only[okRs]at h;have a1:=pr_len ff R p o h1 h.1;have a2:=prDs_len ff R ks ps os' h2 h.2;have a3:(spc (sepD p)).length≤1:=by cases sepD p<;>simp[spc]
  have a4:=encN_len k;simp only[prDs,fwBs,List.length_append,List.length_cons,List.map_cons,List.sum_cons];omega
end
open Go Go.RowKit Go.Maps Go.Lib
theorem fol_nil:Fol []:=⟨fun c hc=>by simp at hc,beg_nil⟩
theorem read_print (pf:By→Nat)(ff:Nat→By)(R:Nat→Prop)(p:PO)(hok:okR ff R p)(hl:lvP p≤50):∃r,rdV pf 50 (prP ff p) false=some (valP (mapR (fun x=>pf (ff x)) p),r,false)∧(passM false r false).1=[]:=by
 obtain⟨r',h1,h2⟩:=rd_pr pf ff R p 50 [] hok hl fol_nil;rw[List.append_nil]at h1;refine⟨r',h1,?_⟩;rcases h2 with rfl|rfl
 ·rfl
 ·rw[pass_sp];rfl
def L3Post (w w':World)(e:Ending):Prop:=e=.returned (.bool true)∧w.grownBy w' none
theorem law3_any (pf:By→Nat)(ff:Nat→By)(W0 w:World)(hI:Init W0)(hpf:PFC pf W0)(hff:FfAll ff W0)(hT:TabIs Tryz.prog W0 "internal/strconv.uint64pow10" .u64 pow10Tab)(hE:Env W0 w)(o:OB)(S:Nat→Prop)(ks vs:Value)(hwf:wfB o)(hIs:IsB S w o ks vs)(hS:∀k,S k→k<w.heap.size) :
  Calls Tryz.prog 3 #[obV o ks vs] w fun e w'=>L3Post w w' e:=by
 obtain⟨ko,kc,vo,vc,rfl,rfl,-⟩:=hIs.view;have hIw:=fun (w2:World) (hg2:w.grownBy w2 none)=>IsB.keep (S':=S) (w':=w2) (fun k hk=>⟨hk,hg2.block k (hS k hk) (by simp)⟩) _ _ _ hIs;have hSw:=fun (w2:World) (hg2:w.grownBy w2 none) k (hk:S k)=>Nat.lt_of_lt_of_le (hS k hk) hg2.size;have hft:=fun (w2:World) (hg2:w.grownBy w2 none)=>fits1_all o S w2 _ _ hwf (hIw w2 hg2) (hSw w2 hg2);have hf7:=fun (w2:World) (hg2:w.grownBy w2 none)=>f7_any pf ff W0 hpf hff o S w2 _ _ hwf (hIw w2 hg2) (hSw w2 hg2) (hE.grown0 hg2);have hpr:=fun (p:PO) (himg:Img p o) (hok:okS ff (RR pf ff) p) (hfw:fwB o≤20000) (hnn:p≠.null) (w2:World) (hg2:w.grownBy w2 none)=>print_any ff (RR pf ff) W0 hT (fun x hx=>(hff x hx.2.1 hx.2.2).2) p o himg hok.1 hok.2 hfw hnn (by have:=pr_len ff _ p o himg hok.1;omega) S w2 _ _ (hIw w2 hg2) (hSw w2 hg2) (hE.grown0 hg2)
 have hra:∀(p:PO) (himg:Img p o) (hok:okS ff (RR pf ff) p) (hfw:fwB o≤20000) (hlv:lvP p≤50) (w2:World) (hg2:w.grownBy w2 none),Calls Tryz.prog 10 #[.string (bs (prP ff p))] w2 fun e w'=>RdA w2 w' (valP (mapR (fun x=>pf (ff x)) p)) e:=by
  intro p himg hok hfw hlv w2 hg2;obtain⟨r,h1,h2⟩:=read_print pf ff _ p hok.1 hlv;exact readall_any pf W0 w2 hI hpf (hE.grown0 hg2) (prP ff p) (by have:=pr_len ff _ p o himg hok.1;omega) _ r false h1 h2
 obtain⟨Hft,Hf7,Hpr,Hra⟩:=xh4 hft hf7 hpr hra;have hk0:∀p,Img p o→o.k≠0→p≠.null:=fun p hp hk e=>by subst e;simp only[Img]at hp;exact hk hp
 obtain⟨Hk0,Hwf⟩:=xh2 hk0 hwf;clear hft hf7 hpr hra hk0 hI hpf hff hT hE hwf hIs hS hIw hSw;unfold obV at *;generalize o.k=k1 at *;generalize o.i=k2 at *;generalize o.g=k3 at *;generalize o.r=k4 at *;generalize bs o.t=k5 at *;generalize o.keys.length=k6 at *;generalize o.kids.length=k7 at *;obtain⟨Wa,hWa⟩:∃Wa,Wa=w.alloc (.cells #[.int .i64 k1,.int .i64 k2,.int .i64 k3,.float .f64 k4,.string k5,.slice ko k6 kc,.slice vo k7 vc] 26):=⟨_,rfl⟩;have hga:w.grownBy Wa none:=by rw[hWa];exact gr_alloc (xgr _ _) _
 have hza:Wa.heap[w.heap.size]?=some (.cells #[.int .i64 k1,.int .i64 k2,.int .i64 k3,.float .f64 k4,.string k5,.slice ko k6 kc,.slice vo k7 vc] 26 (0,0)):=by rw[hWa];exact heap_alloc_new _ _
 obtain⟨Hga,Hza⟩:=xh2 hga hza;clear hga hza;go_enter Tryz.func3,Tryz.ntmps3
 go_upto_region 1 with (fail)
 rw[←hWa];clear hWa;obtain⟨y0,y1,y2,y3,y4,y5,y6,yf⟩:=cells7 Hza.out;go_wp2_with fail
 refine(Hft.out Wa Hga.out).mono ?_;rintro e w1⟨⟨bf,rfl⟩,hg1⟩;have Hg1:=xhd (Hga.out.trans hg1);have hz1:=(hg1.block _ (xgl Hza.out) (by simp)).trans Hza.out;have Hz1:=xhd hz1;clear y0 y1 y2 y3 y4 y5 y6 yf hg1 hz1 Hft Hza Hga;obtain⟨y0,y1,y2,y3,y4,y5,y6,yf⟩:=cells7 Hz1.out
 cases bf
 ·go_wp2_with fail
  go_ret;exact⟨rfl,by first|exact Hg1.out|exact gr_alloc Hg1.out _⟩
 go_wp2_with fail
 refine(Hf7.out w1 Hg1.out).mono ?_;rintro e w2⟨v,b,rfl,hsh,hg2,hb2⟩;have Hg2:=xhd (Hg1.out.trans hg2);have hz2:=(hg2.block _ (xgl Hz1.out) (by simp)).trans Hz1.out;obtain⟨Hz2,Hb2⟩:=xh2 hz2 hb2;clear y0 y1 y2 y3 y4 y5 y6 yf hg2 hz2 Hf7 Hz1 hb2
 cases b with
 | false =>
  obtain⟨xk,xn,xg,xx,xt,xo2,xn2,xc2,yo2,yn2,yc2,rfl⟩:=hsh;clear Hb2;go_wp2_with fail
  go_ret;exact⟨rfl,gr_alloc Hg2.out _⟩
 | true =>
  obtain⟨hfw,p,pks,pvs,S2,himg,hok,rfl,hIV,hS2⟩:=Hb2.out (by trivial);obtain⟨⟨pko,pkn,pkc,rfl⟩,⟨pvo,pvn,pvc,rfl⟩⟩:=hIV.slices;have hfz:szV (valP p)≤5000→fwB o≤20000:=fun hz=>hfw (by have h1:=fw_size o Hwf.out himg.2.1;have h2:=himg.2.2;omega);replace himg:=himg.1;have hlvv:=lv_val p;have Hsm:=xhd (fun (hl:lvP p≤50)=>same_map ff (RR pf ff) eqvF (fun x=>pf (ff x)) (fun x hx=>hx.1) p 50 hok.1 hl);have Hpr2:=xhd (Hpr.out p himg hok);have Hra2:=xhd (Hra.out p himg hok);have Hk1:=xhd (Hk0.out p himg);obtain⟨X,hX⟩:∃X,X=valP p:=⟨_,rfl⟩;rw[←hX]at Hsm hIV hlvv hfz⊢;obtain⟨W3,hW3⟩:∃W,W=w2.alloc (.cells #[.int .i64 (pvKind X),.int .i64 (pvInt X),.int .i64 (pvGen X),.float .f64 (pvReal X),.string ⟨(pvText X).toArray⟩,.slice pko pkn pkc,.slice pvo pvn pvc] 30):=⟨_,rfl⟩;have hg3:w2.grownBy W3 none:=by rw[hW3];exact gr_alloc (xgr _ _) _
  have hx3:W3.heap[w2.heap.size]?=some (.cells #[.int .i64 (pvKind X),.int .i64 (pvInt X),.int .i64 (pvGen X),.float .f64 (pvReal X),.string ⟨(pvText X).toArray⟩,.slice pko pkn pkc,.slice pvo pvn pvc] 30 (0,0)):=by rw[hW3];exact heap_alloc_new w2 _
  have hIw:=fun (w4:World) (hg4:W3.grownBy w4 none)=>IsV.keep (S':=S2) (w':=w4) (fun k hk=>⟨hk,(hg3.trans hg4).block k (hS2 k hk).2 (by simp)⟩) _ _ _ hIV;have hSw:=fun (w4:World) (hg4:W3.grownBy w4 none) k (hk:S2 k)=>Nat.lt_of_lt_of_le (hS2 k hk).2 (hg3.trans hg4).size;have hmd:=modest_all X S2 W3 (.slice pko pkn pkc) (.slice pvo pvn pvc) (hIw W3 (xgr _ _)) (hSw W3 (xgr _ _));have hz3:=(hg3.block _ (xgl Hz2.out) (by simp)).trans Hz2.out;unfold valOf at hmd⊢;obtain⟨Hmd,HIw,HSw,Hx3,Hz3⟩:=xh5 hmd hIw hSw hx3 hz3;have Hg3:=xhd (Hg2.out.trans hg3);obtain⟨Hlv,Hfz⟩:=xh2 hlvv hfz;clear hmd hIw hSw hx3 hz3 hg3 hlvv hfz hfw himg hok hIV hS2 Hb2 Hpr Hra Hk0 hX Hz2 Hg2 hsh
  go_upto_region 4 with (fail)
  rw[←hW3];clear hW3;obtain⟨y0,y1,y2,y3,y4,y5,y6,yf⟩:=cells7 Hz3.out;obtain⟨x0,x1,x2,x3,x4,x5,x6,xf⟩:=cells7 Hx3.out;go_wp2_with fail
  refine Hmd.out.mono ?_;rintro e w4⟨⟨b2,rfl,hb4⟩,hg4⟩;obtain⟨Hb4,Hg34⟩:=xh2 hb4 hg4;have Hg4:=xhd (Hg3.out.trans hg4);have hz4:=(hg4.block _ (xgl Hz3.out) (by simp)).trans Hz3.out;have hx4:=(hg4.block _ (xgl Hx3.out) (by simp)).trans Hx3.out;obtain⟨Hz4,Hx4⟩:=xh2 hz4 hx4;clear hg4 hz4 hx4 x0 x1 x2 x3 x4 x5 x6 xf y0 y1 y2 y3 y4 y5 y6 yf Hz3 Hx3 hb4 Hmd;obtain⟨y0,y1,y2,y3,y4,y5,y6,yf⟩:=cells7 Hz4.out
  cases b2 with
  | false =>
   go_wp2_with fail
   go_ret;exact⟨rfl,Hg4.out⟩
  | true =>
   by_cases hk:k1=0
   ·subst hk
    go_wp2_with fail
    go_ret;exact⟨rfl,Hg4.out⟩
   ·have hkb:(k1==0)=false:=by simpa using hk
    have hl40:lvP p≤50:=by have h1:=(Hb4.out (by trivial)).2;have h2:=Hlv.out;omega
    have hfw:fwB o≤20000:=Hfz.out (Hb4.out (by trivial)).1;have Hpr3:=xhd (Hpr2.out hfw (Hk1.out hk) w4 Hg4.out);have Hra3:=xhd (Hra2.out hfw hl40);have Hsm3:=xhd (Hsm.out hl40);clear hl40 hfw Hfz Hpr2 Hra2 Hsm Hk1 Hb4 Hlv;go_wp2_with fail
    refine Hpr3.out.mono ?_;rintro e w5⟨rfl,hg5⟩;have Hg5:=xhd hg5;clear hg5 y0 y1 y2 y3 y4 y5 y6 yf;have hra:=Hra3.out w5 (Hg4.out.trans Hg5.out);have Hra4:=xhd hra;clear hra Hra3 Hpr3;generalize bs (prP ff p)=zt at *;go_wp2_with fail
    refine Hra4.out.mono ?_;rintro e w6⟨lks,lvs,S6,rfl,hV6,hS6,hg6⟩;obtain⟨⟨lko,lkn,lkc,rfl⟩,⟨lvo,lvn,lvc,rfl⟩⟩:=hV6.slices;obtain⟨Y,hY⟩:∃Y,Y=valP (mapR (fun x=>pf (ff x)) p):=⟨_,rfl⟩;have hsm:=Hsm3.out;rw[←hY]at hV6 hsm⊢;obtain⟨W7,hW7⟩:∃W,W=w6.alloc (.cells #[.int .i64 (pvKind Y),.int .i64 (pvInt Y),.int .i64 (pvGen Y),.float .f64 (pvReal Y),.string ⟨(pvText Y).toArray⟩,.slice lko lkn lkc,.slice lvo lvn lvc] 30):=⟨_,rfl⟩;have hg7:w6.grownBy W7 none:=by rw[hW7];exact gr_alloc (xgr _ _) _
    have hy7:W7.heap[w6.heap.size]?=some (.cells #[.int .i64 (pvKind Y),.int .i64 (pvInt Y),.int .i64 (pvGen Y),.float .f64 (pvReal Y),.string ⟨(pvText Y).toArray⟩,.slice lko lkn lkc,.slice lvo lvn lvc] 30 (0,0)):=by rw[hW7];exact heap_alloc_new w6 _
    have hg47:=Hg5.out.trans (hg6.trans hg7);have hx7:=(hg47.block _ (xgl Hx4.out) (by simp)).trans Hx4.out
    have hcall:=sameC_all 50 Y X (fun k=>S6 k∨S2 k) W7 (.slice lko lkn lkc) (.slice lvo lvn lvc) (.slice pko pkn pkc) (.slice pvo pvn pvc) hsm (IsV.keep (fun k hk=>⟨.inl hk,hg7.block k (hS6 k hk).2 (by simp)⟩) _ _ _ hV6) (IsV.keep (fun k hk=>⟨.inr hk,rfl⟩) _ _ _ (HIw.out W7 (Hg34.out.trans hg47))) (fun k hk=>by
     rcases hk with hk|hk
     ·exact Nat.lt_of_lt_of_le (hS6 k hk).2 hg7.size
     ·exact HSw.out W7 (Hg34.out.trans hg47) k hk)
    unfold valOf at hcall⊢;obtain⟨Hcall,Hx7,Hy7⟩:=xh3 hcall hx7 hy7;have Hg7:=xhd (Hg4.out.trans hg47);clear hcall hx7 hy7 hg47 hg7 hg6 hS6 hV6 hsm hY Hsm3 Hra4 HIw HSw Hz4 Hx4 Hg34 Hg5 Hg4
    go_upto_region 8 with (fail)
    rw[←hW7];clear hW7;obtain⟨x0,x1,x2,x3,x4,x5,x6,xf⟩:=cells7 Hx7.out;obtain⟨y0,y1,y2,y3,y4,y5,y6,yf⟩:=cells7 Hy7.out;generalize pvKind X=p1 at *;generalize pvInt X=p2 at *;generalize pvGen X=p3 at *;generalize pvReal X=p4 at *;generalize (⟨(pvText X).toArray⟩:ByteArray)=p5 at *;generalize pvKind Y=d1 at *;generalize pvInt Y=d2 at *;generalize pvGen Y=d3 at *;generalize pvReal Y=d4 at *;generalize (⟨(pvText Y).toArray⟩:ByteArray)=d5 at *;go_wp2_with fail
    refine Hcall.out.mono ?_;rintro e w8⟨rfl,hg8⟩;have Hg8:=xhd hg8;clear hg8;go_wp2_with fail
    go_ret;exact⟨rfl,Hg7.out.trans Hg8.out⟩
end Go.Proofs.YtfkecmlmnhbmoaaGreatDoor
namespace Go.Proofs.YtfkecmlmnhbmoaaGreatDoor
open Go Go.RowKit Go.Lib Go.ChangeShapes Go.WideShapes Go.ChangeAt Go.ChangeMaps
theorem tabIs_of_reads {P:Program}{W:World}{name:String}{k:IntKind}{zs:List Int}{g:Nat}{t e:TypeId}{n:Nat}
  (hg:P.globalNamed name=some g)(hty:(P.globals[g]?).map (·.type)=some t)(ht:P.underlying t=some (.array n e))(he:P.underlying e=some (.int k))(hce:P.cellsOf e=1)(hct:P.cellsOf t=n)
  (h:VarReads P W name (tabData k zs)):TabIs P W name k zs:=by
 obtain⟨g',t',cs,fuel,p,hg',ht',hvar,hd⟩:=h;obtain rfl:=Option.some.inj (hg.symm.trans hg');obtain rfl:=Option.some.inj (hty.symm.trans ht');unfold TabIs;rw[hvar,←cells_of_tab ht he hce hct hd]
theorem init_print {W:World}(h:laidMet Tryz.prog Rows.fnPrintRow.laid W):FInit3 W∧Init W∧TabIs Tryz.prog W "internal/strconv.uint64pow10" .u64 pow10Tab:=by
 have hm:∀(i:Nat) n d,Rows.fnPrintRow.laid[i]?=some (n,d)→VarReads Tryz.prog W n d:=fun i n d hi=>Go.Lib.laidMet.reads h (List.mem_of_getElem? hi);refine⟨finit_of (hm 4 _ _ rfl) (hm 3 _ _ rfl) (hm 5 _ _ rfl) (hm 6 _ _ rfl) (hm 11 _ _ rfl) (hm 12 _ _ rfl),?_,?_⟩
 ·obtain⟨a,b,ca,cb,hab⟩:=errs_of (l1:=Rows.fnPrintRow.laid.take 9) (l2:=Rows.fnPrintRow.laid.drop 11) h
  exact⟨⟨_,_,hab.syn⟩,⟨_,_,hab.ran⟩⟩
 ·have h8:VarReads Tryz.prog W "internal/strconv.uint64pow10" (tabData .u64 pow10Tab):=hm 8 _ _ rfl
  exact tabIs_of_reads g12 (by kernel_rfl) Tryz.underlying249 (by kernel_rfl) (by kernel_rfl) (by kernel_rfl) h8
theorem obV_of {v:Value}{o:OB}{ks vs:Value}{W:World}{b:Nat}(hv:Value.okWide Tryz.prog W .any b 26 v)(h:v.cells.toList=b7 o ks vs):v=obV o ks vs:=by
 obtain⟨cs,rfl,hc⟩:=okWide_struct Tryz.underlying26 hv;have:(Value.agg cs).cells=cs:=rfl;rw[this]at h;have:cs=(b7 o ks vs).toArray:=by rw[←h]
 rw[this];rfl
theorem contract3 (H:Type)(enc:TypeId×Value→H)(W:World)(base:Nat)(args:Array Value)(ds gs:List (DataW H))(before:List MemPlace)
  (hval:∀(j:Nat) t v,Tryz.f3.params[j]?=some t→args[j]?=some v→Value.okWide Tryz.prog W .any base t v)
  (hW:DataW.Whole enc Tryz.prog Tryz.f3.params.toList Rows.fnPrintSpec.vars false W args.toList ds gs before)(hk:(DataW.weightsEach Tryz.prog (Tryz.f3.params.toList++Rows.fnPrintSpec.plain.varTypes Tryz.prog) (ds++gs)).all (·≤reachBytes)=true)(hL:laidMetH Tryz.prog Rows.fnPrintRow.laid W) :
  Calls Tryz.prog 3 args W fun e W'=>∃v,e=.returned v∧Rows.fnPrintSpec.post enc Tryz.prog Tryz.f3 false true false false W args v W':=by
 have hL':laidMet Tryz.prog Rows.fnPrintRow.laid W:=hL;obtain⟨hF,hI,hT⟩:=init_print hL';obtain⟨pf,hpf,hnn⟩:=PFC_ex W hF;obtain⟨ff,hff⟩:=FFC_ex W hF.toFInit2 hT;have hW':=hW;obtain⟨p,q,hA0,hV,hpq,hfz,hnd⟩:=hW;have hA:DataW.TrodAll enc Tryz.prog W 0 (fun _=>true) true Tryz.f3.params.toList args.toList ds p:=hA0;rw[Tryz.params3]at hA hval;obtain⟨v0,vs0,d0,ds0,p0,q0,hargs,rfl,rfl,h0,r0⟩:=trodAll_cons hA;obtain⟨rfl,rfl,rfl⟩:=trodAll_nil r0;obtain rfl:args=#[v0]:=by cases args;simp_all
 obtain⟨rfl,rfl⟩:=trodVars_none hV;clear hA0;obtain⟨fuel,h0'⟩:=h0
 have hsz:∀n∈d0.weights Tryz.prog 26,n≤140737488351232:=fun n hn=>by
  have h1:=List.all_eq_true.1 hk n (DataW.weights_mem_each (j:=0) (t:=26) (d:=d0) (by rw[Tryz.params3];rfl) rfl n hn);have h2:n≤reachBytes:=of_decide_eq_true h1;exact Nat.le_trans h2 (by decide)
 obtain⟨o,ks,vs,hcs,hIs,hwf⟩:=ob_of_trod fuel _ _ h0' hsz;have hv0:=obV_of (hval 0 26 v0 rfl rfl) hcs;have walk:=law3_any pf ff W W hI hpf hff hT (Env.refl W) o (LtS W) ks vs hwf hIs (fun k hk=>hk);rw[←hv0]at walk;refine walk.mono fun e W' ⟨he,hg⟩=>?_;subst he;have hb:=below_of hg;have hlt:∀x∈p0,x.block<W.heap.size:=fun x hx=>hW'.lt x (by rw[hpq];simp[hx]);refine⟨_,rfl,post_same (pa:=p0) (pv:=[]) hb hW' (fun _ _ _=>trodAll_cons_mk (shut_bool Tryz.underlying4 _) trodAll_mk0) (fun sp hsp=>?_) (fun _ _=>rfl) (by rw[hpq];simp) (ok_one (by kernel_rfl) rfl (okWide_bool_mk Tryz.underlying4 _))⟩;refine⟨p0,[],⟨fuel,?_⟩,rfl,by simp⟩;exact DataW.trod_stays (kids_book (by kernel_rfl) (by kernel_rfl)) (book_sized (by kernel_rfl)) (fun h=>by cases h) ⟨of_decide_eq_true (by kernel_rfl),book_self 26⟩ h0' (fun x hx=>hb.same (hlt x hx)) (fun x hx=>hsp x (by rw[hpq];simp[hx]))
end Go.Proofs.YtfkecmlmnhbmoaaGreatDoor
