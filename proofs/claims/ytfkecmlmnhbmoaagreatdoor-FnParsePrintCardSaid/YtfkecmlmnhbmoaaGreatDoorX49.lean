/- Parts Q9 Q10 Q12 Q13 J17. -/
import Derived.Test.YtfkecmlmnhbmoaaGreatDoorX46
import Derived.Test.YtfkecmlmnhbmoaaGreatDoorX48
set_option linter.unusedVariables false
set_option linter.unusedSimpArgs false
set_option maxRecDepth 100000
set_option maxHeartbeats 40000000
namespace Go.Proofs.YtfkecmlmnhbmoaaGreatDoor
open Go Go.RowKit Go.Maps Go.Lib
theorem a8I:∀(ps:List PO) (p:PO),p∈ps→lvP p≤lvPs ps
 | [],p,h=>by simp at h
 | q::ps,p,h=>by
  simp only[lvPs];rcases List.mem_cons.1 h with e|e
  ·subst e;omega
  ·have:=a8I ps p e;omega
theorem b7B (ff:Nat→By)(R:Nat→Prop)(W0:World)(hT:TabIs Tryz.prog W0 "internal/strconv.uint64pow10" .u64 pow10Tab)(hR:∀x,R x→FfC W0 x (ff x)):∀(n:Nat) (p:PO),lvP p≤n→PrC ff R W0 p:=by
 intro n
 induction n with
 | zero=>intro p h;cases p<;>simp[lvP]at h
 | succ n ih =>
  intro p h
  cases p with
  | arr ks=>exact parr ff R W0 ks fun q hq=>ih q (by have:=a8I ks q hq;simp only[lvP]at h;omega)
  | dict ks vs=>exact c2e ff R W0 ks vs fun q hq=>ih q (by have:=a8I vs q hq;simp only[lvP]at h;omega)
  | _=>exact b4F ff R W0 hT hR _ (by simp) (by simp)
theorem b8y (w:World)(args:Array Value)(R:World→Prop)(hF:Calls Tryz.prog 23 args (w.alloc (.cells #[.bool false] 4)) fun e w'=>e=.returned (.tuple #[])∧w'.heap[w.heap.size]?=some (.cells #[.bool false] 4 (0,0))∧R w') :
  Calls Tryz.prog 22 #[.func (.func 23) #[] args] w fun e w'=>e=.returned (.bool true)∧∃w1,R w1∧w1.heap[w.heap.size]?=some (.cells #[.bool false] 4 (0,0))∧w'=w1.setCell ⟨w.heap.size,0,none⟩ (.bool true):=by
 have hmf:∀(fn:Fn) (first cap:Array Value) (w:World),(Instr.makeFunc fn first cap).run Tryz.prog w=.ok (.func fn first cap) w:=fun _ _ _ _=>rfl
 go_enter_defers Tryz.func22,Tryz.ntmps22
 go_wp2_with fail
 refine hF.mono ?_;rintro e w1⟨rfl,hz,hR⟩;have c1:w1.cell? ⟨w.heap.size,0,none⟩=some (.bool false):=by simp[World.cell?,hz]
 have f1:w1.frozen? ⟨w.heap.size,0,none⟩=false:=by simp[World.frozen?,hz]
 have HR:=xhd (And.intro hR hz);clear hF hR hz;go_wp2_with fail
 refine leaves_cons (f:=41) (args:=#[.pointer (some ⟨w.heap.size,0,none⟩)]) (by simp) (by simp[go_sem]) ?_;refine(a7B ⟨w.heap.size,0,none⟩ _).mono ?_;rintro e u' w''⟨rfl,rfl,rfl⟩;have hz2:=a0T HR.out.2 (.bool true);refine Exists.intro (.bool true) ⟨by simp[results,Tryz.results22,go_sem,World.cell?,hz2],?_⟩;exact⟨rfl,w1,HR.out.1,HR.out.2,rfl⟩
@[go_sem] theorem c1S (u:Value)(w:World):(method 465 66 u "PDFString").run Tryz.prog w=.ok (260,u) w:=by kernel_rfl
@[go_sem] theorem c1T (u:Value)(w:World):(method 465 67 u "PDFString").run Tryz.prog w=.ok (265,u) w:=by kernel_rfl
@[go_sem] theorem c1U (u:Value)(w:World):(method 465 68 u "PDFString").run Tryz.prog w=.ok (268,u) w:=by kernel_rfl
@[go_sem] theorem c1V (u:Value)(w:World):(method 465 69 u "PDFString").run Tryz.prog w=.ok (271,u) w:=by kernel_rfl
@[go_sem] theorem c1W (u:Value)(w:World):(method 465 70 u "PDFString").run Tryz.prog w=.ok (274,u) w:=by kernel_rfl
@[go_sem] theorem c1X (u:Value)(w:World):(method 465 71 u "PDFString").run Tryz.prog w=.ok (277,u) w:=by kernel_rfl
@[go_sem] theorem c1Y (u:Value)(w:World):(method 465 73 u "PDFString").run Tryz.prog w=.ok (285,u) w:=by kernel_rfl
@[go_sem] theorem c1Z (u:Value)(w:World):(method 465 77 u "PDFString").run Tryz.prog w=.ok (287,u) w:=by kernel_rfl
@[go_sem] theorem c2a (u:Value)(w:World):(method 465 81 u "PDFString").run Tryz.prog w=.ok (288,u) w:=by kernel_rfl
def P23 (w w':World)(bt:Nat)(t:ByteArray)(e:Ending):Prop:=e=.returned (.tuple #[])∧w'.heap[bt]?=some (.cells #[.string t] 9 (0,0))∧w.grownBy w' (some bt)
theorem pr23 (p:PO)(hp:p≠.null)(t:By)(u:Value)(bo bt:Nat)(w:World)(ho:w.heap[bo]?=some (.cells #[.iface (tyP p) u] 50 (0,0)))(ht:w.heap[bt]?=some (.cells #[.string ⟨#[]⟩] 9 (0,0)))
  (hc:Calls Tryz.prog (fnP p) #[u] w fun e w'=>e=.returned (.string (bs t))∧w.grownBy w' none) :
  Calls Tryz.prog 23 #[.pointer (some ⟨bo,0,none⟩),.pointer (some ⟨bt,0,none⟩)] w fun e w'=>P23 w w' bt (bs t) e:=by
 have c1:w.cell? ⟨bo,0,none⟩=some (.iface (tyP p) u):=by simp[World.cell?,ho]
 have hbt:=(xgl ht);obtain⟨Ht,Hc⟩:=xh2 ht hc;clear ho ht hc;generalize bs t=z at *
 cases p with
 | null=>exact absurd rfl hp
 | bool x =>
  clear hp;have c2:w.cell? ⟨bo,0,none⟩=some (.iface 66 u):=c1;have Hd:=xhd (show Calls Tryz.prog 260 _ _ _ from Hc.out);clear c1 Hc
  skip
  go_enter Tryz.func23,Tryz.ntmps23;go_wp2_with fail
  refine Hd.out.mono ?_;rintro e w2⟨rfl,hg2⟩;have ht2:=(hg2.block bt hbt (by simp)).trans Ht.out;have d1:w2.cell? ⟨bt,0,none⟩=some (.string ⟨#[]⟩):=by simp[World.cell?,ht2]
  have d2:w2.frozen? ⟨bt,0,none⟩=false:=by simp[World.frozen?,ht2]
  obtain⟨Hg2,Ht2⟩:=xh2 hg2 ht2;clear hg2 ht2;go_wp2_with fail
  go_end0;exact⟨rfl,a0T Ht2.out _,a0e (World.grownBy.trans ⟨Hg2.out.os,Hg2.out.tape,Hg2.out.output,Hg2.out.size,fun k hk _=>Hg2.out.block k hk (by simp)⟩ (xgr _ _)) 0 _⟩
 | int x =>
  clear hp;have c2:w.cell? ⟨bo,0,none⟩=some (.iface 67 u):=c1;have Hd:=xhd (show Calls Tryz.prog 265 _ _ _ from Hc.out);clear c1 Hc
  skip
  go_enter Tryz.func23,Tryz.ntmps23;go_wp2_with fail
  refine Hd.out.mono ?_;rintro e w2⟨rfl,hg2⟩;have ht2:=(hg2.block bt hbt (by simp)).trans Ht.out;have d1:w2.cell? ⟨bt,0,none⟩=some (.string ⟨#[]⟩):=by simp[World.cell?,ht2]
  have d2:w2.frozen? ⟨bt,0,none⟩=false:=by simp[World.frozen?,ht2]
  obtain⟨Hg2,Ht2⟩:=xh2 hg2 ht2;clear hg2 ht2;go_wp2_with fail
  go_end0;exact⟨rfl,a0T Ht2.out _,a0e (World.grownBy.trans ⟨Hg2.out.os,Hg2.out.tape,Hg2.out.output,Hg2.out.size,fun k hk _=>Hg2.out.block k hk (by simp)⟩ (xgr _ _)) 0 _⟩
 | real x =>
  clear hp;have c2:w.cell? ⟨bo,0,none⟩=some (.iface 68 u):=c1;have Hd:=xhd (show Calls Tryz.prog 268 _ _ _ from Hc.out);clear c1 Hc
  skip
  go_enter Tryz.func23,Tryz.ntmps23;go_wp2_with fail
  refine Hd.out.mono ?_;rintro e w2⟨rfl,hg2⟩;have ht2:=(hg2.block bt hbt (by simp)).trans Ht.out;have d1:w2.cell? ⟨bt,0,none⟩=some (.string ⟨#[]⟩):=by simp[World.cell?,ht2]
  have d2:w2.frozen? ⟨bt,0,none⟩=false:=by simp[World.frozen?,ht2]
  obtain⟨Hg2,Ht2⟩:=xh2 hg2 ht2;clear hg2 ht2;go_wp2_with fail
  go_end0;exact⟨rfl,a0T Ht2.out _,a0e (World.grownBy.trans ⟨Hg2.out.os,Hg2.out.tape,Hg2.out.output,Hg2.out.size,fun k hk _=>Hg2.out.block k hk (by simp)⟩ (xgr _ _)) 0 _⟩
 | lit x =>
  clear hp;have c2:w.cell? ⟨bo,0,none⟩=some (.iface 69 u):=c1;have Hd:=xhd (show Calls Tryz.prog 271 _ _ _ from Hc.out);clear c1 Hc
  skip
  go_enter Tryz.func23,Tryz.ntmps23;go_wp2_with fail
  refine Hd.out.mono ?_;rintro e w2⟨rfl,hg2⟩;have ht2:=(hg2.block bt hbt (by simp)).trans Ht.out;have d1:w2.cell? ⟨bt,0,none⟩=some (.string ⟨#[]⟩):=by simp[World.cell?,ht2]
  have d2:w2.frozen? ⟨bt,0,none⟩=false:=by simp[World.frozen?,ht2]
  obtain⟨Hg2,Ht2⟩:=xh2 hg2 ht2;clear hg2 ht2;go_wp2_with fail
  go_end0;exact⟨rfl,a0T Ht2.out _,a0e (World.grownBy.trans ⟨Hg2.out.os,Hg2.out.tape,Hg2.out.output,Hg2.out.size,fun k hk _=>Hg2.out.block k hk (by simp)⟩ (xgr _ _)) 0 _⟩
 | hexl x =>
  clear hp;have c2:w.cell? ⟨bo,0,none⟩=some (.iface 70 u):=c1;have Hd:=xhd (show Calls Tryz.prog 274 _ _ _ from Hc.out);clear c1 Hc
  skip
  go_enter Tryz.func23,Tryz.ntmps23;go_wp2_with fail
  refine Hd.out.mono ?_;rintro e w2⟨rfl,hg2⟩;have ht2:=(hg2.block bt hbt (by simp)).trans Ht.out;have d1:w2.cell? ⟨bt,0,none⟩=some (.string ⟨#[]⟩):=by simp[World.cell?,ht2]
  have d2:w2.frozen? ⟨bt,0,none⟩=false:=by simp[World.frozen?,ht2]
  obtain⟨Hg2,Ht2⟩:=xh2 hg2 ht2;clear hg2 ht2;go_wp2_with fail
  go_end0;exact⟨rfl,a0T Ht2.out _,a0e (World.grownBy.trans ⟨Hg2.out.os,Hg2.out.tape,Hg2.out.output,Hg2.out.size,fun k hk _=>Hg2.out.block k hk (by simp)⟩ (xgr _ _)) 0 _⟩
 | name x =>
  clear hp;have c2:w.cell? ⟨bo,0,none⟩=some (.iface 71 u):=c1;have Hd:=xhd (show Calls Tryz.prog 277 _ _ _ from Hc.out);clear c1 Hc
  skip
  go_enter Tryz.func23,Tryz.ntmps23;go_wp2_with fail
  refine Hd.out.mono ?_;rintro e w2⟨rfl,hg2⟩;have ht2:=(hg2.block bt hbt (by simp)).trans Ht.out;have d1:w2.cell? ⟨bt,0,none⟩=some (.string ⟨#[]⟩):=by simp[World.cell?,ht2]
  have d2:w2.frozen? ⟨bt,0,none⟩=false:=by simp[World.frozen?,ht2]
  obtain⟨Hg2,Ht2⟩:=xh2 hg2 ht2;clear hg2 ht2;go_wp2_with fail
  go_end0;exact⟨rfl,a0T Ht2.out _,a0e (World.grownBy.trans ⟨Hg2.out.os,Hg2.out.tape,Hg2.out.output,Hg2.out.size,fun k hk _=>Hg2.out.block k hk (by simp)⟩ (xgr _ _)) 0 _⟩
 | ref x y =>
  clear hp;have c2:w.cell? ⟨bo,0,none⟩=some (.iface 73 u):=c1;have Hd:=xhd (show Calls Tryz.prog 285 _ _ _ from Hc.out);clear c1 Hc
  skip
  go_enter Tryz.func23,Tryz.ntmps23;go_wp2_with fail
  refine Hd.out.mono ?_;rintro e w2⟨rfl,hg2⟩;have ht2:=(hg2.block bt hbt (by simp)).trans Ht.out;have d1:w2.cell? ⟨bt,0,none⟩=some (.string ⟨#[]⟩):=by simp[World.cell?,ht2]
  have d2:w2.frozen? ⟨bt,0,none⟩=false:=by simp[World.frozen?,ht2]
  obtain⟨Hg2,Ht2⟩:=xh2 hg2 ht2;clear hg2 ht2;go_wp2_with fail
  go_end0;exact⟨rfl,a0T Ht2.out _,a0e (World.grownBy.trans ⟨Hg2.out.os,Hg2.out.tape,Hg2.out.output,Hg2.out.size,fun k hk _=>Hg2.out.block k hk (by simp)⟩ (xgr _ _)) 0 _⟩
 | arr x =>
  clear hp;have c2:w.cell? ⟨bo,0,none⟩=some (.iface 77 u):=c1;have Hd:=xhd (show Calls Tryz.prog 287 _ _ _ from Hc.out);clear c1 Hc
  skip
  go_enter Tryz.func23,Tryz.ntmps23;go_wp2_with fail
  refine Hd.out.mono ?_;rintro e w2⟨rfl,hg2⟩;have ht2:=(hg2.block bt hbt (by simp)).trans Ht.out;have d1:w2.cell? ⟨bt,0,none⟩=some (.string ⟨#[]⟩):=by simp[World.cell?,ht2]
  have d2:w2.frozen? ⟨bt,0,none⟩=false:=by simp[World.frozen?,ht2]
  obtain⟨Hg2,Ht2⟩:=xh2 hg2 ht2;clear hg2 ht2;go_wp2_with fail
  go_end0;exact⟨rfl,a0T Ht2.out _,a0e (World.grownBy.trans ⟨Hg2.out.os,Hg2.out.tape,Hg2.out.output,Hg2.out.size,fun k hk _=>Hg2.out.block k hk (by simp)⟩ (xgr _ _)) 0 _⟩
 | dict x y =>
  clear hp;have c2:w.cell? ⟨bo,0,none⟩=some (.iface 81 u):=c1;have Hd:=xhd (show Calls Tryz.prog 288 _ _ _ from Hc.out);clear c1 Hc
  skip
  go_enter Tryz.func23,Tryz.ntmps23;go_wp2_with fail
  refine Hd.out.mono ?_;rintro e w2⟨rfl,hg2⟩;have ht2:=(hg2.block bt hbt (by simp)).trans Ht.out;have d1:w2.cell? ⟨bt,0,none⟩=some (.string ⟨#[]⟩):=by simp[World.cell?,ht2]
  have d2:w2.frozen? ⟨bt,0,none⟩=false:=by simp[World.frozen?,ht2]
  obtain⟨Hg2,Ht2⟩:=xh2 hg2 ht2;clear hg2 ht2;go_wp2_with fail
  go_end0;exact⟨rfl,a0T Ht2.out _,a0e (World.grownBy.trans ⟨Hg2.out.os,Hg2.out.tape,Hg2.out.output,Hg2.out.size,fun k hk _=>Hg2.out.block k hk (by simp)⟩ (xgr _ _)) 0 _⟩
def b5F (ff:Nat→By)(p:PO)(w w':World)(e:Ending):Prop:=e=.returned (.tuple #[.string (bs (prP ff p)),.bool true])∧w.grownBy w' none
theorem b9B {w5:World}{bt:Nat}{z:ByteArray}{tmps:Array Value}{R:Ending→World→Prop}(h2:tmps.getD 2 undef=.pointer (some ⟨bt,0,none⟩))(h3:tmps.getD 3 undef=.bool true)
  (hz:w5.heap[bt]?=some (.cells #[.string z] 9 (0,0)))(hR:R (.returned (.tuple #[.string z,.bool true])) w5):bodyPost Tryz.prog Tryz.f9 R Exit.ret { tmps:=tmps,defers:=[] } w5:=by
 have c2:w5.cell? ⟨bt,0,none⟩=some (.string z):=by simp[World.cell?,hz]
 simp only[Array.getD_eq_getD_getElem?]at h2 h3;exact bodyPost_ret (v:=.tuple #[.string z,.bool true]) (by simp[results,Tryz.results9,go_sem,h2,h3,c2]) rfl hR
theorem b2E (ff:Nat→By)(R:Nat→Prop)(W0:World)(hT:TabIs Tryz.prog W0 "internal/strconv.uint64pow10" .u64 pow10Tab)(hR:∀x,R x→FfC W0 x (ff x))(p:PO)(o:OB)(himg:Img p o)(hok:okR ff R p)(hsr:srP p)(hfw:fwB o≤20000)(hnn:p≠.null)(hlen:(prP ff p).length≤1000000000)(S:Nat→Prop)(w:World)(ks vs:Value)(hI:IsB S w o ks vs)(hS:∀k,S k→k<w.heap.size)(hE:Env W0 w) :
  Calls Tryz.prog 9 #[obV o ks vs] w fun e w'=>b5F ff p w w' e:=by
 have hob:=b9q ff R _ p o (Nat.le_refl _) himg hok hfw;have hpc:=b7B ff R W0 hT hR _ p (Nat.le_refl _);have hmf:∀(fn:Fn) (first cap:Array Value) (w:World),(Instr.makeFunc fn first cap).run Tryz.prog w=.ok (.func fn first cap) w:=fun _ _ _ _=>rfl;obtain⟨ko,kc,vo,vc,rfl,rfl,-⟩:=hI.view;have hcall:=fun (w2:World) (hg2:w.grownBy w2 none)=>hob S w2 _ _ (IsB.keep (S':=S) (fun k hk=>⟨hk,hg2.block k (hS k hk) (by simp)⟩) _ _ _ hI) (fun k hk=>Nat.lt_of_lt_of_le (hS k hk) hg2.size);unfold obV at *;obtain⟨Hcall,Hpc,HE,Hok,Hsr,Hlen⟩:=xh6 hcall hpc hE hok hsr hlen;clear hcall hpc hE hob hT hR himg hok hsr hlen hfw hI hS;generalize o.k=k1 at *;generalize o.i=k2 at *;generalize o.g=k3 at *;generalize o.r=k4 at *;generalize bs o.t=k5 at *;generalize o.keys.length=k6 at *;generalize o.kids.length=k7 at *;go_enter Tryz.func9,Tryz.ntmps9;go_wp2_with fail
 obtain⟨a0,a1⟩:=a0Z w w.heap.size rfl (.cells #[.int .i64 k1,.int .i64 k2,.int .i64 k3,.float .f64 k4,.string k5,.slice ko k6 kc,.slice vo k7 vc] 26) (.cells #[.string ⟨#[]⟩] 9);obtain⟨Wa,hWa⟩:∃Wa,Wa=(w.alloc (.cells #[.int .i64 k1,.int .i64 k2,.int .i64 k3,.float .f64 k4,.string k5,.slice ko k6 kc,.slice vo k7 vc] 26)).alloc (.cells #[.string ⟨#[]⟩] 9):=⟨_,rfl⟩;have hga:w.grownBy Wa none:=by rw[hWa];exact a0a (a0a (xgr _ _) _) _
 have hsz:Wa.heap.size=w.heap.size+2:=by rw[hWa];simp
 rw[←hWa]at a0 a1⊢;refine(Hcall.out Wa hga).mono ?_;rintro e w2⟨v,S3,rfl,hO,hS3,hg2⟩;have hb2:=(hg2.block _ (xgl a1) (by simp)).trans a1;have hs2:=hg2.size;have hno:=hO.nil_or;have Hga:=xhd (hga.trans hg2);obtain⟨HO,HS3,Hb2⟩:=xh3 hO hS3 hb2;rcases hno with⟨hn,_⟩|⟨_,ty,u,rfl⟩
 ·exact absurd hn hnn
 clear a0 a1 hWa hga hg2 hO hS3 hb2;obtain⟨W3,hW3⟩:∃W3,W3=w2.alloc (.cells #[.iface ty u] 50):=⟨_,rfl⟩;obtain⟨W4,hW4⟩:∃W4,W4=W3.alloc (.cells #[.bool false] 4):=⟨_,rfl⟩;have hg3:w2.grownBy W3 none:=by rw[hW3];exact a0a (xgr _ _) _
 have hg4:W3.grownBy W4 none:=by rw[hW4];exact a0a (xgr _ _) _
 have hz3:W3.heap[w2.heap.size]?=some (.cells #[.iface ty u] 50 (0,0)):=by rw[hW3];exact heap_alloc_new _ _
 have hs3:W3.heap.size=w2.heap.size+1:=by rw[hW3];simp
 have hs4:W4.heap.size=W3.heap.size+1:=by rw[hW4];simp
 have hz4:=(hg4.block _ (by omega) (by simp)).trans hz3;have hb4:W4.heap[w.heap.size+1]?=_:=((hg3.trans hg4).block _ (by omega) (by simp)).trans Hb2.out;have hn4:W4.heap[W3.heap.size]?=some (.cells #[.bool false] 4 (0,0)):=by rw[hW4];exact heap_alloc_new _ _
 obtain⟨u',hu',hc4⟩:=Hpc.out S3 W4 (.iface ty u) (ObjO.keep (S':=S3) (fun k hk=>⟨hk,(hg3.trans hg4).block k (HS3.out k hk).2 (by simp)⟩) _ _ HO.out) (fun k hk=>by have:=(HS3.out k hk).2;omega) (HE.out.grown0 (Hga.out.trans (hg3.trans hg4))) Hok.out Hsr.out Hlen.out hnn;injection hu' with hu1 hu2;subst hu2;have hz5:=hz4;rw[hu1]at hz5;have h23:=pr23 p hnn _ u w2.heap.size (w.heap.size+1) W4 hz5 hb4 hc4
 have hcalm:=b8y W3 #[.pointer (some ⟨w2.heap.size,0,none⟩),.pointer (some ⟨w.heap.size+1,0,none⟩)] (fun w'=>W4.grownBy w' (some (w.heap.size+1))∧w'.heap[w.heap.size+1]?=some (.cells #[.string (bs (prP ff p))] 9 (0,0))) (by
  rw[←hW4];refine h23.mono ?_;rintro e w'⟨rfl,h1,h2⟩
  exact⟨rfl,(h2.block _ (by omega) (by simp;omega)).trans hn4,h2,h1⟩)
 have Hcalm:=xhd hcalm;have Hg34:=xhd (Hga.out.trans (hg3.trans hg4));have Hss:=xhd (And.intro hs3 (And.intro hs4 hsz));have Hs2:=xhd hs2;have cz:W3.cell? ⟨w2.heap.size,0,none⟩=some (.iface ty u):=by simp[World.cell?,hz3]
 clear hg3 hg4 hz3 hs3 hs4 hz4 hb4 hn4 hc4 hu1 hz5 h23 hcalm hsz hs2 Hb2 HO HS3 Hok Hsr Hlen HE Hpc Hcall hW4
 go_upto_region 2 with (fail)
 rw[←hW3];clear hW3;go_wp2_with fail
 refine Hcalm.out.mono ?_;rintro e w'⟨rfl,w5,⟨hg5,hb5⟩,hz5,rfl⟩;have s5:=hg5.size;have hset:=a0e (xgr w5 (some W3.heap.size)) 0 (.bool true);obtain⟨w6,hw6⟩:∃w6,w6=w5.setCell ⟨W3.heap.size,0,none⟩ (.bool true):=⟨_,rfl⟩;rw[←hw6]at hset⊢;have hss:=Hss.out;have hs2:=Hs2.out;have hb6:=(hset.block _ (by omega) (by simp;omega)).trans hb5
 have hg6:w.grownBy w6 none:=by
  have h1:=a0g Hg34.out hg5 (fun k hk=>by injection hk with hk;omega);exact a0g h1 hset (fun k hk=>by injection hk with hk;have:=Hg34.out.size;omega)
 have c6:w6.cell? ⟨w.heap.size+1,0,none⟩=some (.string (bs (prP ff p))):=by simp[World.cell?,hb6]
 have f6:w6.frozen? ⟨w.heap.size+1,0,none⟩=false:=by simp[World.frozen?,hb6]
 obtain⟨Hb6,Hg6⟩:=xh2 hb6 hg6;obtain⟨zz,hzz⟩:∃z,z=bs (prP ff p):=⟨_,rfl⟩;rw[←hzz]at c6 Hb6;have Hzz:=xhd hzz;clear hzz hb6 hg6 hset hw6 hz5 hb5 hg5 s5 hss hs2 Hss Hs2 Hg34 Hcalm;go_wp2_with fail
 refine b9B rfl rfl (a0T Hb6.out _) ?_;exact⟨by rw[Hzz.out],a0g Hg6.out (a0e (xgr w6 (some (w.heap.size+1))) 0 _) (fun k hk=>by injection hk with hk;omega)⟩
theorem b1F:Fol []:=⟨fun c hc=>by simp at hc,b6r⟩
theorem b0O (pf:By→Nat)(ff:Nat→By)(R:Nat→Prop)(p:PO)(hok:okR ff R p)(hl:lvP p≤50):∃r,rdV pf 50 (prP ff p) false=some (valP (mapR (fun x=>pf (ff x)) p),r,false)∧(a0j false r false).1=[]:=by
 obtain⟨r',h1,h2⟩:=b4R pf ff R p 50 [] hok hl b1F;rw[List.append_nil]at h1;refine⟨r',h1,?_⟩;rcases h2 with rfl|rfl
 ·rfl
 ·rw[a2Z];rfl
end Go.Proofs.YtfkecmlmnhbmoaaGreatDoor
namespace Go.Proofs.YtfkecmlmnhbmoaaGreatDoor
open Go Go.RowKit
def Rk (R M k:Nat):Prop:=(R<4503599627370496∧M=R∧k=0)∨(4503599627370496≤R∧M=4503599627370496+R%4503599627370496∧k=R/4503599627370496-1)
theorem a9T {x:Nat}(h:x%9223372036854775808<9218868437227405312):∃M k,Rk (x%9223372036854775808) M k∧FloatKind.f64.format.read x=.number (x/9223372036854775808%2==1) M (-1074+(k:Int)):=by
 have e1:FloatKind.f64.format=Ieee.double:=rfl;have e2:Ieee.double.signWeight=9223372036854775808:=by decide
 have e3:Ieee.double.infRung=9218868437227405312:=by decide
 have e4:Ieee.double.binade=4503599627370496:=by decide
 have e5:Ieee.double.leastPlace=-1074:=by decide
 rw[e1];unfold Ieee.Format.read;simp only[e2,e3,e4,e5]
 by_cases h1:x%9223372036854775808<4503599627370496
 ·rw[if_pos h1]
  exact⟨_,0,.inl ⟨h1,rfl,rfl⟩,by simp⟩
 ·rw[if_neg h1,if_pos h]
  exact⟨_,_,.inr ⟨by omega,rfl,rfl⟩,rfl⟩
theorem b2O {x:Nat}(h:¬x%9223372036854775808<9218868437227405312):(∃s,FloatKind.f64.format.read x=.infinity s)∨∃s m,FloatKind.f64.format.read x=.nan s m:=by
 have e1:FloatKind.f64.format=Ieee.double:=rfl;have e2:Ieee.double.signWeight=9223372036854775808:=by decide
 have e3:Ieee.double.infRung=9218868437227405312:=by decide
 have e4:Ieee.double.binade=4503599627370496:=by decide
 rw[e1];unfold Ieee.Format.read;simp only[e2,e3,e4];rw[if_neg (by omega),if_neg h]
 split
 ·exact .inl ⟨_,rfl⟩
 ·exact .inr ⟨_,_,rfl⟩
theorem Rk.inj {R1 M1 k1 R2 M2 k2:Nat}(h1:Rk R1 M1 k1)(h2:Rk R2 M2 k2)(hk:k1≤k2)(h:M1=M2*2^(k2-k1)):R1=R2:=by
 unfold Rk at h1 h2
 by_cases e:k1=k2
 ·subst e
  rw[Nat.sub_self,Nat.pow_zero,Nat.mul_one]at h;omega
 ·have hp:2^1≤2^(k2-k1):=Nat.pow_le_pow_right (by decide) (by omega)
  have h3:M2*2^1≤M2*2^(k2-k1):=Nat.mul_le_mul_left _ hp;omega
theorem b8z {a b:Int}(h:compare a b=Ordering.eq):a=b:=by
 have h:compareOfLessAndEq a b=Ordering.eq:=h;unfold compareOfLessAndEq at h
 split at h
 ·cases h
 ·split at h
  ·assumption
  ·cases h
theorem b2Z {s t:Bool}{m n a b:Nat}(h:Ieee.signed s m a=Ieee.signed t n b):m*2^a=n*2^b∧(s=t∨m*2^a=0):=by
 unfold Ieee.signed at h;rw[Nat.shiftLeft_eq,Nat.shiftLeft_eq]at h;generalize m*2^a=u at *;generalize n*2^b=v at *
 cases s<;>cases t<;>simp only[Bool.false_eq_true,if_false,if_true]at h<;>refine⟨by omega,?_⟩<;>first|exact .inl rfl|exact .inr (by omega)
theorem b9x {x y:Nat}(hx:x<18446744073709551616)(hy:y<18446744073709551616)(hf:y%9223372036854775808<9218868437227405312)(h:FloatKind.f64.format.order x y=some Ordering.eq):x=y∨(x%9223372036854775808=0∧y%9223372036854775808=0):=by
 unfold Ieee.Format.order at h;obtain⟨M2,k2,hR2,e2⟩:=a9T hf;rw[e2]at h
 by_cases hfx:x%9223372036854775808<9218868437227405312
 ·obtain⟨M1,k1,hR1,e1⟩:=a9T hfx
  rw[e1]at h;simp only[Ieee.Datum.order,Option.some.injEq]at h;obtain⟨h1,h2⟩:=b2Z (b8z h)
  have hR:x%9223372036854775808=y%9223372036854775808:=by
   rcases Nat.le_total k1 k2 with hk|hk
   ·have a1:(-1074+(k1:Int)-min (-1074+(k1:Int)) (-1074+(k2:Int))).toNat=0:=by omega
    have a2:(-1074+(k2:Int)-min (-1074+(k1:Int)) (-1074+(k2:Int))).toNat=k2-k1:=by omega
    rw[a1,a2,Nat.pow_zero,Nat.mul_one]at h1;exact hR1.inj hR2 hk h1
   ·have a1:(-1074+(k1:Int)-min (-1074+(k1:Int)) (-1074+(k2:Int))).toNat=k1-k2:=by omega
    have a2:(-1074+(k2:Int)-min (-1074+(k1:Int)) (-1074+(k2:Int))).toNat=0:=by omega
    rw[a1,a2,Nat.pow_zero,Nat.mul_one]at h1;exact(hR2.inj hR1 hk h1.symm).symm
  rcases h2 with h2|h2
  ·left
   have h3:x/9223372036854775808%2=y/9223372036854775808%2:=by
    rcases Nat.mod_two_eq_zero_or_one (x/9223372036854775808) with a|a<;>rcases Nat.mod_two_eq_zero_or_one (y/9223372036854775808) with b|b<;>rw[a,b]at h2⊢<;>simp at h2
   omega
  ·right
   have hM:M1=0:=by
    rcases Nat.mul_eq_zero.1 h2 with e|e
    ·exact e
    ·exact absurd e (Nat.pos_iff_ne_zero.1 (Nat.pow_pos (by decide)))
   unfold Rk at hR1;omega
 ·rcases b2O hfx with⟨s,e⟩|⟨s,m,e⟩
  ·rw[e]at h
   simp only[Ieee.Datum.order]at h
   cases s<;>simp at h
  ·rw[e]at h
   simp[Ieee.Datum.order]at h
theorem b5D:(rfF (a0i (ftxt false [] 0)) 0 0 0 false).1=0∧a0p (ftxt false [] 0) (· == 45)=false∧(rfF (a0i (ftxt true [] 0)) 0 0 0 false).1=0∧a0p (ftxt true [] 0) (· == 45)=true:=by decide
theorem b2P {pf:By→Nat}{ff:Nat→By}(hpf:∀l,a1q l→nnF (pf l)∧a6n l (pf l)){x:Nat}(hx:x<18446744073709551616)(hb:x%9223372036854775808<4816244402031689728)(ht:FtX x (ff x))(h:FloatKind.f64.format.order (pf (ff x)) x=some Ordering.eq):pf (ff x)=x:=by
 obtain⟨h1,h2⟩:=hpf (ff x) ht.1;rcases b9x h1.2 hx (by omega) h with e|⟨_,e⟩
 ·exact e
 ·have hc:x=0∨x=9223372036854775808:=by omega
  obtain⟨z1,z2,z3,z4⟩:=b5D;rcases hc with e|e
  ·have ht2:=ht.2.2.1 e
   rw[ht2]at h2⊢;have:=h2 z1 false z2;rw[this,e];rfl
  ·have ht2:=ht.2.2.2 e
   rw[ht2]at h2⊢;have:=h2 z3 true z4;rw[this,e];rfl
end Go.Proofs.YtfkecmlmnhbmoaaGreatDoor
