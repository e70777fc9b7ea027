/- The texts L4 R2 Q10 Q13 R5 of the workbench, laid together. -/
import Derived.Test.YtfkecmlmnhbmoaaGreatDoorProg
import Derived.WalkKit
import Derived.WalkLawsBesides
import Derived.WalkSpells
import Derived.BigQuiet
import Derived.BigRegion
import Derived.Deep.QuietTactic
import Derived.Deep.RegionHeld3
import Derived.Deep.LoopGhost
import Derived.StillTailTactics
import Derived.Lib.Hide
import Derived.Laws.EntriesVeiled
import Derived.Deep.Cut
import Derived.ProofKit
import Derived.OpenShut
import Derived.OpenVars
import Derived.ChangeSame
import Derived.ChangeMaps5
import Derived.Deep.DeepHandedRow
import Derived.Lib.LaidTab
import Derived.Test.YtfkecmlmnhbmoaaGreatDoorY19
import Derived.Test.YtfkecmlmnhbmoaaGreatDoorY25
import Derived.Test.YtfkecmlmnhbmoaaGreatDoorY35
import Derived.Test.YtfkecmlmnhbmoaaGreatDoorY39
import Derived.Test.YtfkecmlmnhbmoaaGreatDoorY41
import Derived.Test.YtfkecmlmnhbmoaaGreatDoorY43
import Derived.Test.YtfkecmlmnhbmoaaGreatDoorY44
import Derived.Test.YtfkecmlmnhbmoaaGreatDoorY46
import Derived.Test.YtfkecmlmnhbmoaaGreatDoorY47
set_option linter.unusedVariables false
set_option linter.unusedSimpArgs false
namespace Go.Proofs.YtfkecmlmnhbmoaaGreatDoor
open Go Go.RowKit
open Go.Maps
end Go.Proofs.YtfkecmlmnhbmoaaGreatDoor
namespace Go.Proofs.YtfkecmlmnhbmoaaGreatDoor
open Go Go.RowKit
open Go.Lib Go.ChangeShapes Go.WideShapes Go.ChangeAt Go.ChangeMaps
theorem below_of {w w':World} (h:w.grownBy w' Option.none):Below w.heap.size w w':=⟨h.os,h.tape,h.output,h.size,fun k hk=>h.block k hk (by simp)⟩
section
variable {H:Type} {enc:TypeId × Value→H} {P:Program}
theorem post_same {f:Func} {s:ChangeSpec} {apart fresh handsOn again:Bool} {W W':World} {args:Array Value} {v:Value} {ds gs:List (DataW H)} {before pa pv:List MemPlace} (hb:Below W.heap.size W W')
  (hW:DataW.Whole enc P f.params.toList s.vars apart W args.toList ds gs before)
  (hres:∀ (b:Nat) (sp:Nat→Bool) (hd:Bool),DataW.TrodAll enc P W' b sp hd f.resultTypes.toList (v.resultList f.resultTypes.size) (s.fn H (ds ++ gs)).results [])
  (hargs:∀ sp:Nat→Bool,(∀ p∈before,sp p.block=true)→DataW.TrodAll enc P W' 0 sp true f.params.toList args.toList (s.fn H (ds ++ gs)).args pa)
  (hvars:∀ sp:Nat→Bool,(∀ p∈before,sp p.block=true)→DataW.TrodVars enc P W' sp s.vars (s.fn H (ds ++ gs)).vars pv)
  (hps:before=pa ++ pv)
  (hok:∀ (j:Nat) (t:TypeId) (r:Value),f.resultTypes[j]?=some t→(v.resultList f.resultTypes.size)[j]?=some r→Value.okWide P W' .any 0 t r) :
  s.post enc P f apart fresh handsOn again W args v W':=by
 have hold:∀ p∈before,(fun b=>decide (b < W.heap.size)) p.block=true:=fun p hp=>by simpa using hW.lt p hp
 refine ⟨ds,gs,before,[],pa,pv,hW,hres _ _ _,hargs _ hold,hvars _ hold,hb.frame _,fun _=>?_⟩
 have hlt:=hW.lt
 obtain ⟨_,_,_,_,_,hz,hn⟩:=hW
 refine ⟨hok,_,_,([] ++ pa) ++ pv,⟨[] ++ pa,pv,trodAll_append (hargs _ (fun _ _=>rfl)) (hres _ _ _),hvars _ (fun _ _=>rfl),rfl,?_,?_⟩,?_⟩
 ·intro b off hp
  have hp':MemPlace.cell b off∈before:=by rw [hps];simpa using hp
  have h1:=hz b off hp'
  have h2:=hb.block b (hlt _ hp')
  unfold World.frozen? at h1 ⊢
  simp only [h2]
  exact h1
 ·intro ha
  have:=hn ha
  rw [hps] at this
  simpa using this
 ·intro p hp _
  rw [hps]
  simpa using hp
end
end Go.Proofs.YtfkecmlmnhbmoaaGreatDoor
namespace Go.Proofs.YtfkecmlmnhbmoaaGreatDoor
open Go Go.RowKit
open Go.Maps Go.Lib
def PrPost (ff:Nat→By) (p:PO) (w w':World) (e:Ending):Prop:=e=.returned (.tuple #[.string (bs (prP ff p)),.bool true])∧w.grownBy w' none
set_option maxRecDepth 100000 in
set_option maxHeartbeats 40000000 in
theorem pr_ret {w5:World} {bt:Nat} {z:ByteArray} {tmps:Array Value} {R:Ending→World→Prop} (h2:tmps.getD 2 undef=.pointer (some ⟨bt,0,none⟩)) (h3:tmps.getD 3 undef=.bool true)
  (hz:w5.heap[bt]?=some (.cells #[.string z] 9 (0,0))) (hR:R (.returned (.tuple #[.string z,.bool true])) w5):bodyPost Tryz.prog Tryz.f9 R Exit.ret { tmps:=tmps,defers:=[] } w5:=by
 have c2:w5.cell? ⟨bt,0,none⟩=some (.string z):=by simp [World.cell?,hz]
 simp only [Array.getD_eq_getD_getElem?] at h2 h3
 exact bodyPost_ret (v:=.tuple #[.string z,.bool true]) (by simp [results,Tryz.results9,go_sem,h2,h3,c2]) rfl hR
set_option maxRecDepth 100000 in
set_option maxHeartbeats 40000000 in
theorem print_any (ff:Nat→By) (R:Nat→Prop) (W0:World) (hT:TabIs Tryz.prog W0 "internal/strconv.uint64pow10" .u64 pow10Tab) (hR:∀ x,R x→FfC W0 x (ff x)) (p:PO) (o:OB) (himg:Img p o) (hok:okR ff R p) (hsr:srP p) (hfw:fwB o≤20000) (hnn:p≠.null) (hlen:(prP ff p).length≤1000000000) (S:Nat→Prop) (w:World) (ks vs:Value) (hI:IsB S w o ks vs) (hS:∀ k,S k→k < w.heap.size) (hE:Env W0 w) :
  Calls Tryz.prog 9 #[obV o ks vs] w fun e w'=>PrPost ff p w w' e:=by
 have hob:=ob_all ff R _ p o (Nat.le_refl _) himg hok hfw
 have hpc:=prc_all ff R W0 hT hR _ p (Nat.le_refl _)
 have hmf:∀ (fn:Fn) (first cap:Array Value) (w:World),(Instr.makeFunc fn first cap).run Tryz.prog w=.ok (.func fn first cap) w:=fun _ _ _ _=>rfl
 obtain ⟨ko,kc,vo,vc,rfl,rfl,-⟩:=hI.view
 have hcall:=fun (w2:World) (hg2:w.grownBy w2 none)=>hob S w2 _ _ (IsB.keep (S':=S) (fun k hk=>⟨hk,hg2.block k (hS k hk) (by simp)⟩) _ _ _ hI) (fun k hk=>Nat.lt_of_lt_of_le (hS k hk) hg2.size)
 unfold obV at *
 have Hcall:=Lib.hid hcall
 have Hpc:=Lib.hid hpc
 have HE:=Lib.hid hE
 have Hok:=Lib.hid hok
 have Hsr:=Lib.hid hsr
 have Hlen:=Lib.hid hlen
 clear hcall hpc hE hob hT hR himg hok hsr hlen hfw hI hS
 generalize o.k=k1 at *
 generalize o.i=k2 at *
 generalize o.g=k3 at *
 generalize o.r=k4 at *
 generalize bs o.t=k5 at *
 generalize o.keys.length=k6 at *
 generalize o.kids.length=k7 at *
 go_enter Tryz.func9,Tryz.ntmps9
 go_wp2_with fail
 obtain ⟨a0,a1⟩:=alloc2 w w.heap.size rfl (.cells #[.int .i64 k1,.int .i64 k2,.int .i64 k3,.float .f64 k4,.string k5,.slice ko k6 kc,.slice vo k7 vc] 26) (.cells #[.string ⟨#[]⟩] 9)
 obtain ⟨Wa,hWa⟩:∃ Wa,Wa=(w.alloc (.cells #[.int .i64 k1,.int .i64 k2,.int .i64 k3,.float .f64 k4,.string k5,.slice ko k6 kc,.slice vo k7 vc] 26)).alloc (.cells #[.string ⟨#[]⟩] 9):=⟨_,rfl⟩
 have hga:w.grownBy Wa none:=by rw [hWa];exact gr_alloc (gr_alloc (World.grownBy.refl _ _) _) _
 have hsz:Wa.heap.size=w.heap.size + 2:=by rw [hWa];simp
 rw [←hWa] at a0 a1 ⊢
 refine (Hcall.out Wa hga).mono ?_
 rintro e w2 ⟨v,S3,rfl,hO,hS3,hg2⟩
 have hb2:=(hg2.block _ (Array.getElem?_eq_some_iff.1 a1).1 (by simp)).trans a1
 have hs2:=hg2.size
 have hno:=hO.nil_or
 have Hga:=Lib.hid (hga.trans hg2)
 have HO:=Lib.hid hO
 have HS3:=Lib.hid hS3
 have Hb2:=Lib.hid hb2
 rcases hno with ⟨hn,_⟩ | ⟨_,ty,u,rfl⟩
 ·exact absurd hn hnn
 clear a0 a1 hWa hga hg2 hO hS3 hb2
 obtain ⟨W3,hW3⟩:∃ W3,W3=w2.alloc (.cells #[.iface ty u] 50):=⟨_,rfl⟩
 obtain ⟨W4,hW4⟩:∃ W4,W4=W3.alloc (.cells #[.bool false] 4):=⟨_,rfl⟩
 have hg3:w2.grownBy W3 none:=by rw [hW3];exact gr_alloc (World.grownBy.refl _ _) _
 have hg4:W3.grownBy W4 none:=by rw [hW4];exact gr_alloc (World.grownBy.refl _ _) _
 have hz3:W3.heap[w2.heap.size]?=some (.cells #[.iface ty u] 50 (0,0)):=by rw [hW3];exact heap_alloc_new _ _
 have hs3:W3.heap.size=w2.heap.size + 1:=by rw [hW3];simp
 have hs4:W4.heap.size=W3.heap.size + 1:=by rw [hW4];simp
 have hz4:=(hg4.block _ (by omega) (by simp)).trans hz3
 have hb4:W4.heap[w.heap.size + 1]?=_:=((hg3.trans hg4).block _ (by omega) (by simp)).trans Hb2.out
 have hn4:W4.heap[W3.heap.size]?=some (.cells #[.bool false] 4 (0,0)):=by rw [hW4];exact heap_alloc_new _ _
 obtain ⟨u',hu',hc4⟩:=Hpc.out S3 W4 (.iface ty u) (ObjO.keep (S':=S3) (fun k hk=>⟨hk,(hg3.trans hg4).block k (HS3.out k hk).2 (by simp)⟩) _ _ HO.out) (fun k hk=>by have:=(HS3.out k hk).2;omega) (HE.out.grown0 (Hga.out.trans (hg3.trans hg4))) Hok.out Hsr.out Hlen.out hnn
 injection hu' with hu1 hu2
 subst hu2
 have hz5:=hz4
 rw [hu1] at hz5
 have h23:=pr23 p hnn _ u w2.heap.size (w.heap.size + 1) W4 hz5 hb4 hc4
 have hcalm:=calm23 W3 #[.pointer (some ⟨w2.heap.size,0,none⟩),.pointer (some ⟨w.heap.size + 1,0,none⟩)] (fun w'=>W4.grownBy w' (some (w.heap.size + 1))∧w'.heap[w.heap.size + 1]?=some (.cells #[.string (bs (prP ff p))] 9 (0,0))) (by
  rw [←hW4]
  refine h23.mono ?_
  rintro e w' ⟨rfl,h1,h2⟩
  exact ⟨rfl,(h2.block _ (by omega) (by simp;omega)).trans hn4,h2,h1⟩)
 have Hcalm:=Lib.hid hcalm
 have Hg34:=Lib.hid (Hga.out.trans (hg3.trans hg4))
 have Hss:=Lib.hid (And.intro hs3 (And.intro hs4 hsz))
 have Hs2:=Lib.hid hs2
 have cz:W3.cell? ⟨w2.heap.size,0,none⟩=some (.iface ty u):=by simp [World.cell?,hz3]
 clear hg3 hg4 hz3 hs3 hs4 hz4 hb4 hn4 hc4 hu1 hz5 h23 hcalm hsz hs2 Hb2 HO HS3 Hok Hsr Hlen HE Hpc Hcall hW4
 go_upto_region 2 with (fail)
 rw [←hW3]
 clear hW3
 go_wp2_with fail
 refine Hcalm.out.mono ?_
 rintro e w' ⟨rfl,w5,⟨hg5,hb5⟩,hz5,rfl⟩
 have s5:=hg5.size
 have hset:=gr_set (World.grownBy.refl w5 (some W3.heap.size)) 0 (.bool true)
 obtain ⟨w6,hw6⟩:∃ w6,w6=w5.setCell ⟨W3.heap.size,0,none⟩ (.bool true):=⟨_,rfl⟩
 rw [←hw6] at hset ⊢
 have hss:=Hss.out
 have hs2:=Hs2.out
 have hb6:=(hset.block _ (by omega) (by simp;omega)).trans hb5
 have hg6:w.grownBy w6 none:=by
  have h1:=gr_noneThen Hg34.out hg5 (fun k hk=>by injection hk with hk;omega)
  exact gr_noneThen h1 hset (fun k hk=>by injection hk with hk;have:=Hg34.out.size;omega)
 have c6:w6.cell? ⟨w.heap.size + 1,0,none⟩=some (.string (bs (prP ff p))):=by simp [World.cell?,hb6]
 have f6:w6.frozen? ⟨w.heap.size + 1,0,none⟩=false:=by simp [World.frozen?,hb6]
 have Hb6:=Lib.hid hb6
 have Hg6:=Lib.hid hg6
 obtain ⟨zz,hzz⟩:∃ z,z=bs (prP ff p):=⟨_,rfl⟩
 rw [←hzz] at c6 Hb6
 have Hzz:=Lib.hid hzz
 clear hzz
 clear hb6 hg6 hset hw6 hz5 hb5 hg5 s5 hss hs2 Hss Hs2 Hg34 Hcalm
 go_wp2_with fail
 refine pr_ret rfl rfl (cells1_set Hb6.out _) ?_
 exact ⟨by rw [Hzz.out],gr_noneThen Hg6.out (gr_set (World.grownBy.refl w6 (some (w.heap.size + 1))) 0 _) (fun k hk=>by injection hk with hk;omega)⟩
end Go.Proofs.YtfkecmlmnhbmoaaGreatDoor
namespace Go.Proofs.YtfkecmlmnhbmoaaGreatDoor
open Go Go.RowKit
open Go.Maps Go.Lib
theorem fol_nil:Fol []:=⟨fun c hc=>by simp at hc,beg_nil⟩
theorem read_print (pf:By→Nat) (ff:Nat→By) (R:Nat→Prop) (p:PO) (hok:okR ff R p) (hl:lvP p≤50):∃ r,rdV pf 50 (prP ff p) false=some (valP (mapR (fun x=>pf (ff x)) p),r,false)∧(passM false r false).1=[]:=by
 obtain ⟨r',h1,h2⟩:=rd_pr pf ff R p 50 [] hok hl fol_nil
 rw [List.append_nil] at h1
 refine ⟨r',h1,?_⟩
 rcases h2 with rfl | rfl
 ·rfl
 ·rw [pass_sp];rfl
def L3Post (w w':World) (e:Ending):Prop:=e=.returned (.bool true)∧w.grownBy w' none
set_option maxRecDepth 100000 in
set_option maxHeartbeats 40000000 in
theorem law3_any (pf:By→Nat) (ff:Nat→By) (W0 w:World) (hI:Init W0) (hpf:PFC pf W0) (hff:FfAll ff W0) (hT:TabIs Tryz.prog W0 "internal/strconv.uint64pow10" .u64 pow10Tab) (hE:Env W0 w) (o:OB) (S:Nat→Prop) (ks vs:Value) (hbk:bkB o≤1048576) (hwf:wfB o) (hIs:IsB S w o ks vs) (hS:∀ k,S k→k < w.heap.size) :
  Calls Tryz.prog 3 #[obV o ks vs] w fun e w'=>L3Post w w' e:=by
 obtain ⟨ko,kc,vo,vc,rfl,rfl,-⟩:=hIs.view
 have hIw:=fun (w2:World) (hg2:w.grownBy w2 none)=>IsB.keep (S':=S) (w':=w2) (fun k hk=>⟨hk,hg2.block k (hS k hk) (by simp)⟩) _ _ _ hIs
 have hSw:=fun (w2:World) (hg2:w.grownBy w2 none) k (hk:S k)=>Nat.lt_of_lt_of_le (hS k hk) hg2.size
 have hft:=fun (w2:World) (hg2:w.grownBy w2 none)=>fits1_any o S w2 _ _ hbk (hIw w2 hg2) (hSw w2 hg2)
 have hf7:=fun (w2:World) (hg2:w.grownBy w2 none)=>f7_any pf ff W0 hpf hff o S w2 _ _ hbk hwf (hIw w2 hg2) (hSw w2 hg2) (hE.grown0 hg2)
 have hpr:=fun (p:PO) (himg:Img p o) (hok:okS ff (RR pf ff) p) (hfw:fwB o≤20000) (hnn:p≠.null) (w2:World) (hg2:w.grownBy w2 none)=>print_any ff (RR pf ff) W0 hT (fun x hx=>(hff x hx.2.1 hx.2.2).2) p o himg hok.1 hok.2 hfw hnn (by have:=pr_len ff _ p o himg hok.1;omega) S w2 _ _ (hIw w2 hg2) (hSw w2 hg2) (hE.grown0 hg2)
 have hra:∀ (p:PO) (himg:Img p o) (hok:okS ff (RR pf ff) p) (hfw:fwB o≤20000) (hlv:lvP p≤50) (w2:World) (hg2:w.grownBy w2 none),Calls Tryz.prog 10 #[.string (bs (prP ff p))] w2 fun e w'=>RdA w2 w' (valP (mapR (fun x=>pf (ff x)) p)) e:=by
  intro p himg hok hfw hlv w2 hg2
  obtain ⟨r,h1,h2⟩:=read_print pf ff _ p hok.1 hlv
  exact readall_any pf W0 w2 hI hpf (hE.grown0 hg2) (prP ff p) (by have:=pr_len ff _ p o himg hok.1;omega) _ r false h1 h2
 have Hft:=Lib.hid hft
 have Hf7:=Lib.hid hf7
 have Hpr:=Lib.hid hpr
 have Hra:=Lib.hid hra
 have hk0:∀ p,Img p o→o.k≠0→p≠.null:=fun p hp hk e=>by subst e;simp only [Img] at hp;exact hk hp
 have Hk0:=Lib.hid hk0
 clear hft hf7 hpr hra hk0 hI hpf hff hT hE hbk hwf hIs hS hIw hSw
 unfold obV at *
 generalize o.k=k1 at *
 generalize o.i=k2 at *
 generalize o.g=k3 at *
 generalize o.r=k4 at *
 generalize bs o.t=k5 at *
 generalize o.keys.length=k6 at *
 generalize o.kids.length=k7 at *
 obtain ⟨Wa,hWa⟩:∃ Wa,Wa=w.alloc (.cells #[.int .i64 k1,.int .i64 k2,.int .i64 k3,.float .f64 k4,.string k5,.slice ko k6 kc,.slice vo k7 vc] 26):=⟨_,rfl⟩
 have hga:w.grownBy Wa none:=by rw [hWa];exact gr_alloc (World.grownBy.refl _ _) _
 have hza:Wa.heap[w.heap.size]?=some (.cells #[.int .i64 k1,.int .i64 k2,.int .i64 k3,.float .f64 k4,.string k5,.slice ko k6 kc,.slice vo k7 vc] 26 (0,0)):=by rw [hWa];exact heap_alloc_new _ _
 have Hga:=Lib.hid hga
 have Hza:=Lib.hid hza
 clear hga hza
 go_enter Tryz.func3,Tryz.ntmps3
 go_upto_region 1 with (fail)
 rw [←hWa]
 clear hWa
 obtain ⟨y0,y1,y2,y3,y4,y5,y6,yf⟩:=cells7 Hza.out
 go_wp2_with fail
 refine (Hft.out Wa Hga.out).mono ?_
 rintro e w1 ⟨rfl,hg1⟩
 have Hg1:=Lib.hid (Hga.out.trans hg1)
 have hz1:=(hg1.block _ (Array.getElem?_eq_some_iff.1 Hza.out).1 (by simp)).trans Hza.out
 have Hz1:=Lib.hid hz1
 clear y0 y1 y2 y3 y4 y5 y6 yf hg1 hz1 Hft Hza Hga
 obtain ⟨y0,y1,y2,y3,y4,y5,y6,yf⟩:=cells7 Hz1.out
 go_wp2_with fail
 refine (Hf7.out w1 Hg1.out).mono ?_
 rintro e w2 ⟨v,b,rfl,hsh,hg2,hb2⟩
 have Hg2:=Lib.hid (Hg1.out.trans hg2)
 have hz2:=(hg2.block _ (Array.getElem?_eq_some_iff.1 Hz1.out).1 (by simp)).trans Hz1.out
 have Hz2:=Lib.hid hz2
 have Hb2:=Lib.hid hb2
 clear y0 y1 y2 y3 y4 y5 y6 yf hg2 hz2 Hf7 Hz1 hb2
 cases b with
 | false =>
  obtain ⟨xk,xn,xg,xx,xt,xo2,xn2,xc2,yo2,yn2,yc2,rfl⟩:=hsh
  clear Hb2
  go_wp2_with fail
  go_ret
  exact ⟨rfl,gr_alloc Hg2.out _⟩
 | true =>
  obtain ⟨hfw,p,pks,pvs,S2,himg,hok,rfl,hIV,hS2⟩:=Hb2.out (by trivial)
  obtain ⟨⟨pko,pkn,pkc,rfl⟩,⟨pvo,pvn,pvc,rfl⟩⟩:=hIV.slices
  have hlf:=lv_fw p o himg
  have hlvv:=lv_val p
  have Hsm:=Lib.hid (fun (hl:lvP p≤50)=>same_map ff (RR pf ff) eqvF (fun x=>pf (ff x)) (fun x hx=>hx.1) p 50 hok.1 hl)
  have Hpr2:=Lib.hid (Hpr.out p himg hok hfw)
  have Hra2:=Lib.hid (Hra.out p himg hok hfw)
  have Hk1:=Lib.hid (Hk0.out p himg)
  obtain ⟨X,hX⟩:∃ X,X=valP p:=⟨_,rfl⟩
  rw [←hX] at Hsm hIV hlvv ⊢
  obtain ⟨W3,hW3⟩:∃ W,W=w2.alloc (.cells #[.int .i64 (pvKind X),.int .i64 (pvInt X),.int .i64 (pvGen X),.float .f64 (pvReal X),.string ⟨(pvText X).toArray⟩,.slice pko pkn pkc,.slice pvo pvn pvc] 30):=⟨_,rfl⟩
  have hg3:w2.grownBy W3 none:=by rw [hW3];exact gr_alloc (World.grownBy.refl _ _) _
  have hx3:W3.heap[w2.heap.size]?=some (.cells #[.int .i64 (pvKind X),.int .i64 (pvInt X),.int .i64 (pvGen X),.float .f64 (pvReal X),.string ⟨(pvText X).toArray⟩,.slice pko pkn pkc,.slice pvo pvn pvc] 30 (0,0)):=by rw [hW3];exact heap_alloc_new w2 _
  have hIw:=fun (w4:World) (hg4:W3.grownBy w4 none)=>IsV.keep (S':=S2) (w':=w4) (fun k hk=>⟨hk,(hg3.trans hg4).block k (hS2 k hk).2 (by simp)⟩) _ _ _ hIV
  have hSw:=fun (w4:World) (hg4:W3.grownBy w4 none) k (hk:S2 k)=>Nat.lt_of_lt_of_le (hS2 k hk).2 (hg3.trans hg4).size
  have hmd:=modest_any X S2 W3 (.slice pko pkn pkc) (.slice pvo pvn pvc) (by omega) (hIw W3 (World.grownBy.refl _ _)) (hSw W3 (World.grownBy.refl _ _))
  have hz3:=(hg3.block _ (Array.getElem?_eq_some_iff.1 Hz2.out).1 (by simp)).trans Hz2.out
  unfold valOf at hmd ⊢
  have Hmd:=Lib.hid hmd
  have HIw:=Lib.hid hIw
  have HSw:=Lib.hid hSw
  have Hx3:=Lib.hid hx3
  have Hz3:=Lib.hid hz3
  have Hg3:=Lib.hid (Hg2.out.trans hg3)
  have Hlv:=Lib.hid hlvv
  clear hmd hIw hSw hx3 hz3 hg3 hlvv hlf hfw himg hok hIV hS2 Hb2 Hpr Hra Hk0 hX Hz2 Hg2 hsh
  go_upto_region 4 with (fail)
  rw [←hW3]
  clear hW3
  obtain ⟨y0,y1,y2,y3,y4,y5,y6,yf⟩:=cells7 Hz3.out
  obtain ⟨x0,x1,x2,x3,x4,x5,x6,xf⟩:=cells7 Hx3.out
  go_wp2_with fail
  refine Hmd.out.mono ?_
  rintro e w4 ⟨⟨b2,rfl,hb4⟩,hg4⟩
  have Hb4:=Lib.hid hb4
  have Hg34:=Lib.hid hg4
  have Hg4:=Lib.hid (Hg3.out.trans hg4)
  have hz4:=(hg4.block _ (Array.getElem?_eq_some_iff.1 Hz3.out).1 (by simp)).trans Hz3.out
  have hx4:=(hg4.block _ (Array.getElem?_eq_some_iff.1 Hx3.out).1 (by simp)).trans Hx3.out
  have Hz4:=Lib.hid hz4
  have Hx4:=Lib.hid hx4
  clear hg4 hz4 hx4 x0 x1 x2 x3 x4 x5 x6 xf y0 y1 y2 y3 y4 y5 y6 yf Hz3 Hx3 hb4 Hmd
  obtain ⟨y0,y1,y2,y3,y4,y5,y6,yf⟩:=cells7 Hz4.out
  cases b2 with
  | false =>
   go_wp2_with fail
   go_ret
   exact ⟨rfl,Hg4.out⟩
  | true =>
   by_cases hk:k1=0
   ·subst hk
    go_wp2_with fail
    go_ret
    exact ⟨rfl,Hg4.out⟩
   ·have hkb:(k1 == 0)=false:=by simpa using hk
    have hl40:lvP p≤50:=by have h1:=(Hb4.out (by trivial)).2;have h2:=Hlv.out;omega
    have Hpr3:=Lib.hid (Hpr2.out (Hk1.out hk) w4 Hg4.out)
    have Hra3:=Lib.hid (Hra2.out hl40)
    have Hsm3:=Lib.hid (Hsm.out hl40)
    clear hl40 Hpr2 Hra2 Hsm Hk1 Hb4 Hlv
    go_wp2_with fail
    refine Hpr3.out.mono ?_
    rintro e w5 ⟨rfl,hg5⟩
    have Hg5:=Lib.hid hg5
    clear hg5 y0 y1 y2 y3 y4 y5 y6 yf
    have hra:=Hra3.out w5 (Hg4.out.trans Hg5.out)
    have Hra4:=Lib.hid hra
    clear hra Hra3 Hpr3
    generalize bs (prP ff p)=zt at *
    go_wp2_with fail
    refine Hra4.out.mono ?_
    rintro e w6 ⟨lks,lvs,S6,rfl,hV6,hS6,hg6⟩
    obtain ⟨⟨lko,lkn,lkc,rfl⟩,⟨lvo,lvn,lvc,rfl⟩⟩:=hV6.slices
    obtain ⟨Y,hY⟩:∃ Y,Y=valP (mapR (fun x=>pf (ff x)) p):=⟨_,rfl⟩
    have hsm:=Hsm3.out
    rw [←hY] at hV6 hsm ⊢
    obtain ⟨W7,hW7⟩:∃ W,W=w6.alloc (.cells #[.int .i64 (pvKind Y),.int .i64 (pvInt Y),.int .i64 (pvGen Y),.float .f64 (pvReal Y),.string ⟨(pvText Y).toArray⟩,.slice lko lkn lkc,.slice lvo lvn lvc] 30):=⟨_,rfl⟩
    have hg7:w6.grownBy W7 none:=by rw [hW7];exact gr_alloc (World.grownBy.refl _ _) _
    have hy7:W7.heap[w6.heap.size]?=some (.cells #[.int .i64 (pvKind Y),.int .i64 (pvInt Y),.int .i64 (pvGen Y),.float .f64 (pvReal Y),.string ⟨(pvText Y).toArray⟩,.slice lko lkn lkc,.slice lvo lvn lvc] 30 (0,0)):=by rw [hW7];exact heap_alloc_new w6 _
    have hg47:=Hg5.out.trans (hg6.trans hg7)
    have hx7:=(hg47.block _ (Array.getElem?_eq_some_iff.1 Hx4.out).1 (by simp)).trans Hx4.out
    have hcall:=sameC_all 50 Y X (fun k=>S6 k∨S2 k) W7 (.slice lko lkn lkc) (.slice lvo lvn lvc) (.slice pko pkn pkc) (.slice pvo pvn pvc) hsm (IsV.keep (fun k hk=>⟨.inl hk,hg7.block k (hS6 k hk).2 (by simp)⟩) _ _ _ hV6) (IsV.keep (fun k hk=>⟨.inr hk,rfl⟩) _ _ _ (HIw.out W7 (Hg34.out.trans hg47))) (fun k hk=>by
     rcases hk with hk | hk
     ·exact Nat.lt_of_lt_of_le (hS6 k hk).2 hg7.size
     ·exact HSw.out W7 (Hg34.out.trans hg47) k hk)
    unfold valOf at hcall ⊢
    have Hcall:=Lib.hid hcall
    have Hx7:=Lib.hid hx7
    have Hy7:=Lib.hid hy7
    have Hg7:=Lib.hid (Hg4.out.trans hg47)
    clear hcall hx7 hy7 hg47 hg7 hg6 hS6 hV6 hsm hY Hsm3 Hra4 HIw HSw Hz4 Hx4 Hg34 Hg5 Hg4
    go_upto_region 8 with (fail)
    rw [←hW7]
    clear hW7
    obtain ⟨x0,x1,x2,x3,x4,x5,x6,xf⟩:=cells7 Hx7.out
    obtain ⟨y0,y1,y2,y3,y4,y5,y6,yf⟩:=cells7 Hy7.out
    generalize pvKind X=p1 at *
    generalize pvInt X=p2 at *
    generalize pvGen X=p3 at *
    generalize pvReal X=p4 at *
    generalize (⟨(pvText X).toArray⟩:ByteArray)=p5 at *
    generalize pvKind Y=d1 at *
    generalize pvInt Y=d2 at *
    generalize pvGen Y=d3 at *
    generalize pvReal Y=d4 at *
    generalize (⟨(pvText Y).toArray⟩:ByteArray)=d5 at *
    go_wp2_with fail
    refine Hcall.out.mono ?_
    rintro e w8 ⟨rfl,hg8⟩
    have Hg8:=Lib.hid hg8
    clear hg8
    go_wp2_with fail
    go_ret
    exact ⟨rfl,Hg7.out.trans Hg8.out⟩
end Go.Proofs.YtfkecmlmnhbmoaaGreatDoor
namespace Go.Proofs.YtfkecmlmnhbmoaaGreatDoor
open Go Go.RowKit
open Go.Lib Go.ChangeShapes Go.WideShapes Go.ChangeAt Go.ChangeMaps
theorem tabIs_of_reads {P:Program} {W:World} {name:String} {k:IntKind} {zs:List Int} {g:Nat} {t e:TypeId} {n:Nat}
  (hg:P.globalNamed name=some g) (hty:(P.globals[g]?).map (·.type)=some t) (ht:P.underlying t=some (.array n e)) (he:P.underlying e=some (.int k)) (hce:P.cellsOf e=1) (hct:P.cellsOf t=n)
  (h:VarReads P W name (tabData k zs)):TabIs P W name k zs:=by
 obtain ⟨g',t',cs,fuel,p,hg',ht',hvar,hd⟩:=h
 obtain rfl:=Option.some.inj (hg.symm.trans hg')
 obtain rfl:=Option.some.inj (hty.symm.trans ht')
 unfold TabIs
 rw [hvar,←cells_of_tab ht he hce hct hd]
set_option maxRecDepth 100000 in
theorem init_print {W:World} (h:laidMet Tryz.prog Rows.fnPrintUptoRow.laid W):FInit3 W∧Init W∧TabIs Tryz.prog W "internal/strconv.uint64pow10" .u64 pow10Tab:=by
 have hm:∀ (i:Nat) n d,Rows.fnPrintUptoRow.laid[i]?=some (n,d)→VarReads Tryz.prog W n d:=fun i n d hi=>Go.Lib.laidMet.reads h (List.mem_of_getElem? hi)
 refine ⟨finit_of (hm 4 _ _ rfl) (hm 3 _ _ rfl) (hm 5 _ _ rfl) (hm 6 _ _ rfl) (hm 11 _ _ rfl) (hm 12 _ _ rfl),?_,?_⟩
 ·obtain ⟨a,b,ca,cb,hab⟩:=errs_of (l1:=Rows.fnPrintUptoRow.laid.take 9) (l2:=Rows.fnPrintUptoRow.laid.drop 11) h
  exact ⟨⟨_,_,hab.syn⟩,⟨_,_,hab.ran⟩⟩
 ·have h8:VarReads Tryz.prog W "internal/strconv.uint64pow10" (tabData .u64 pow10Tab):=hm 8 _ _ rfl
  exact tabIs_of_reads g12 (by kernel_rfl) Tryz.underlying249 (by kernel_rfl) (by kernel_rfl) (by kernel_rfl) h8
set_option maxRecDepth 100000 in
theorem obV_of {v:Value} {o:OB} {ks vs:Value} {W:World} {b:Nat} (hv:Value.okWide Tryz.prog W .any b 26 v) (h:v.cells.toList=b7 o ks vs):v=obV o ks vs:=by
 obtain ⟨cs,rfl,hc⟩:=okWide_struct Tryz.underlying26 hv
 have:(Value.agg cs).cells=cs:=rfl
 rw [this] at h
 have:cs=(b7 o ks vs).toArray:=by rw [←h]
 rw [this]
 rfl
set_option maxRecDepth 100000 in
theorem contract3 (H:Type) (enc:TypeId × Value→H) (W:World) (base:Nat) (args:Array Value) (ds gs:List (DataW H)) (before:List MemPlace)
  (hval:∀ (j:Nat) t v,Tryz.f3.params[j]?=some t→args[j]?=some v→Value.okWide Tryz.prog W .any base t v)
  (hW:DataW.Whole enc Tryz.prog Tryz.f3.params.toList Rows.fnPrintSpec.vars false W args.toList ds gs before) (hk:Rows.uptoSmall H (ds ++ gs)=true) (hL:laidMetH Tryz.prog Rows.fnPrintUptoRow.laid W) :
  Calls Tryz.prog 3 args W fun e W'=>∃ v,e=.returned v∧Rows.fnPrintSpec.post enc Tryz.prog Tryz.f3 false true false false W args v W':=by
 have hL':laidMet Tryz.prog Rows.fnPrintUptoRow.laid W:=hL
 obtain ⟨hF,hI,hT⟩:=init_print hL'
 obtain ⟨pf,hpf,hnn⟩:=PFC_ex W hF
 obtain ⟨ff,hff⟩:=FFC_ex W hF.toFInit2 hT
 have hW':=hW
 obtain ⟨p,q,hA0,hV,hpq,hfz,hnd⟩:=hW
 have hA:DataW.TrodAll enc Tryz.prog W 0 (fun _=>true) true Tryz.f3.params.toList args.toList ds p:=hA0
 rw [Tryz.params3] at hA hval
 obtain ⟨v0,vs0,d0,ds0,p0,q0,hargs,rfl,rfl,h0,r0⟩:=trodAll_cons hA
 obtain ⟨rfl,rfl,rfl⟩:=trodAll_nil r0
 obtain rfl:args=#[v0]:=by cases args;simp_all
 obtain ⟨rfl,rfl⟩:=trodVars_none hV
 clear hA0
 obtain ⟨fuel,h0'⟩:=h0
 obtain ⟨o,ks,vs,hcs,hIs,hwf,hbk⟩:=ob_of_trod fuel _ _ h0'
 have hv0:=obV_of (hval 0 26 v0 rfl rfl) hcs
 have hbd:bkB o≤1048576:=by
  have h1:Rows.uptoBulkAll ([d0] ++ [])≤1048576:=by simpa [Rows.uptoSmall] using hk
  simp only [List.append_nil,Rows.uptoBulkAll] at h1
  have h2:Rows.uptoBulk (d0,p0).1=Rows.uptoBulk d0:=rfl
  omega
 have walk:=law3_any pf ff W W hI hpf hff hT (Env.refl W) o (LtS W) ks vs hbd hwf hIs (fun k hk=>hk)
 rw [←hv0] at walk
 refine walk.mono fun e W' ⟨he,hg⟩=>?_
 subst he
 have hb:=below_of hg
 have hlt:∀ x∈p0,x.block < W.heap.size:=fun x hx=>hW'.lt x (by rw [hpq];simp [hx])
 refine ⟨_,rfl,post_same (pa:=p0) (pv:=[]) hb hW' (fun _ _ _=>trodAll_cons_mk (shut_bool Tryz.underlying4 _) trodAll_mk0) (fun sp hsp=>?_) (fun _ _=>rfl) (by rw [hpq];simp) (ok_one (by kernel_rfl) rfl (okWide_bool_mk Tryz.underlying4 _))⟩
 refine ⟨p0,[],⟨fuel,?_⟩,rfl,by simp⟩
 exact DataW.trod_stays (kids_book (by kernel_rfl) (by kernel_rfl)) (book_sized (by kernel_rfl)) (fun h=>by cases h) ⟨of_decide_eq_true (by kernel_rfl),book_self 26⟩ h0' (fun x hx=>hb.same (hlt x hx)) (fun x hx=>hsp x (by rw [hpq];simp [hx]))
end Go.Proofs.YtfkecmlmnhbmoaaGreatDoor
