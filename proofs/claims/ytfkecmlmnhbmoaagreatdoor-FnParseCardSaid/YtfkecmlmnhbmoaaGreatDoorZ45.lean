/- FnParse: the texts K4 K5 K6 K7 K8 of the workbench, laid together. -/
import Derived.Test.YtfkecmlmnhbmoaaGreatDoorProg
import Derived.WalkKit
import Derived.WalkLawsBesides
import Derived.WalkSpells
import Derived.BigQuiet
import Derived.BigRegion
import Derived.Deep.QuietTactic
import Derived.Deep.RegionHeld3
import Derived.Deep.LoopGhost
import Derived.StillTailTactics
import Derived.Lib.Hide
import Derived.Laws.EntriesVeiled
import Derived.Test.YtfkecmlmnhbmoaaGreatDoorZ44
set_option linter.unusedVariables false
set_option linter.unusedSimpArgs false
namespace Go.Proofs.YtfkecmlmnhbmoaaGreatDoor
open Go Go.RowKit
open Go.Maps
set_option maxRecDepth 100000 in
set_option maxHeartbeats 40000000 in
theorem few_leaf (k i g:Int) (r:Nat) (z:ByteArray) (ko vo:Option Addr) (kc vc:Nat) (c:Nat) (w:World) (hz:z.size≤300000) (hc:w.heap[c]?=some (.cells #[.int .i64 20000] 3 (0,0))) :
    Calls Tryz.prog 17 #[.agg #[.int .i64 k,.int .i64 i,.int .i64 g,.float .f64 r,.string z,.slice ko 0 kc,.slice vo 0 vc],.pointer (some ⟨c,0,none⟩)] w fun e w'=>e=.returned (.bool true)∧w.grownBy w' (some c):=by
  have hg0:∀ o,w.grownBy (w.alloc o) (some c):=fun o=>gr_alloc (World.grownBy.refl w _) _
  have hlt:=(Array.getElem?_eq_some_iff.1 hc).1
  have hne:¬c=w.heap.size:=by omega
  have c0:w.cell? ⟨c,0,none⟩=some (.int .i64 20000):=by simp [World.cell?,hc]
  have f0:w.frozen? ⟨c,0,none⟩=false:=by simp [World.frozen?,hc]
  have q0:(z.size:Int).tdiv 16=((z.size / 16:Nat):Int):=by rw [Int.tdiv_eq_ediv_of_nonneg (by omega)];rfl
  obtain ⟨m,hm⟩:∃ m,m=z.size / 16:=⟨_,rfl⟩
  have hml:m≤18750:=by omega
  rw [←hm] at q0
  have w1:IntKind.i64.wrap (1 + (m:Int))=1 + (m:Int):=IntWalk.i64_in _ (by omega)
  have w2:IntKind.i64.wrap (20000 - (1 + (m:Int)))=20000 - (1 + (m:Int)):=IntWalk.i64_in _ (by omega)
  have w3:IntKind.i64.wrap (m:Int)=(m:Int):=IntWalk.i64_in _ (by omega)
  have h0:¬(20000 - (1 + (m:Int))) < 0:=by omega
  have Hg0:=Lib.hid hg0
  have Hc:=Lib.hid hc
  clear hm hc hg0
  go_enter Tryz.func17,Tryz.ntmps17
  go_wp2_with fail
  go_region
  go_wp2_with fail
  obtain ⟨W,hW⟩:∃ W,W=((w.setCell ⟨c,0,none⟩ (.int .i64 (20000 - (1 + (m:Int))))).alloc (.cells #[.int .i64 k,.int .i64 i,.int .i64 g,.float .f64 r,.string z,.slice ko 0 kc,.slice vo 0 vc] 26)).drew:=⟨_,rfl⟩
  have hbW:W.heap[w.heap.size]?=some (.cells #[.int .i64 k,.int .i64 i,.int .i64 g,.float .f64 r,.string z,.slice ko 0 kc,.slice vo 0 vc] 26 (0,0)):=by
    rw [hW]
    have:=heap_alloc_new (w.setCell ⟨c,0,none⟩ (.int .i64 (20000 - (1 + (m:Int))))) (.cells #[.int .i64 k,.int .i64 i,.int .i64 g,.float .f64 r,.string z,.slice ko 0 kc,.slice vo 0 vc] 26)
    rw [show (w.setCell ⟨c,0,none⟩ (.int .i64 (20000 - (1 + (m:Int))))).heap.size=w.heap.size by simp] at this
    exact this
  have hcW:W.heap[c]?=some (.cells #[.int .i64 (20000 - (1 + (m:Int)))] 3 (0,0)):=by
    rw [hW]
    refine (Below.heap_alloc _ _ _ (by simpa using hlt)).trans ?_
    exact cells1_set Hc.out _
  have hGW:w.grownBy W (some c):=by rw [hW];exact gr_drew (gr_alloc (gr_set (World.grownBy.refl w _) _ _) _)
  rw [←hW]
  clear hW
  obtain ⟨y0,y1,y2,y3,y4,y5,y6,yf⟩:=cells7 hbW
  have d0:W.cell? ⟨c,0,none⟩=some (.int .i64 (20000 - (1 + (m:Int)))):=by simp [World.cell?,hcW]
  have HG:=Lib.hid hGW
  clear hbW hcW hGW c0 f0
  go_loopg [21] 1 (fun g t21 wr=>t21=.int .i64 0∧wr=W)
  case atStart=>exact ⟨rfl,rfl⟩
  case round =>
    obtain ⟨rfl,rfl⟩:=hrel
    go_wp2_with fail
    go_loopg [7] 1 (fun g t7 wq=>t7=.int .i64 0∧wq=wr)
    case atStart=>exact ⟨rfl,rfl⟩
    case round =>
      obtain ⟨rfl,rfl⟩:=hrel
      go_wp2_with fail
      go_ret
      exact ⟨rfl,HG.out⟩
end Go.Proofs.YtfkecmlmnhbmoaaGreatDoor
namespace Go.Proofs.YtfkecmlmnhbmoaaGreatDoor
open Go Go.RowKit
open Go.Maps
set_option maxRecDepth 100000 in
set_option maxHeartbeats 40000000 in
theorem fr_ret {w3:World} {B:Nat} {a0 a1 a2 a3 a4 a5 a6 v0 v1 v2 v3 v4 v5 v6 u3:Value} {tmps:Array Value} {R:Ending→World→Prop} (h2:tmps.getD 2 undef=.pointer (some ⟨B,0,none⟩)) (h3:tmps.getD 3 undef=u3)
    (hz:w3.heap[B]?=some (.cells #[a0,a1,a2,a3,a4,a5,a6] 30 (0,0)))
    (hR:∀ w',(∀ k,k≠B→w'.heap[k]?=w3.heap[k]?)→w'.heap.size=w3.heap.size→(∀ w0 r,World.grownBy w0 w3 r→w0.heap.size≤B→World.grownBy w0 w' r)→R (.returned (.tuple #[.agg #[v0,v1,v2,v3,v4,v5,v6],u3])) w'):bodyPost Tryz.prog Tryz.f18 R Exit.ret { tmps:=tmps,defers:=[] } (set7 w3 B v0 v1 v2 v3 v4 v5 v6):=by
  have hz4:=set7_at hz v0 v1 v2 v3 v4 v5 v6
  have hR4:=hR _ (fun k hk=>set7_other w3 B k v0 v1 v2 v3 v4 v5 v6 hk) (set7_size w3 B v0 v1 v2 v3 v4 v5 v6) (fun w0 r hg hB=>set7_gr hg hB v0 v1 v2 v3 v4 v5 v6)
  generalize set7 w3 B v0 v1 v2 v3 v4 v5 v6=w4 at *
  obtain ⟨y0,y1,y2,y3,y4,y5,y6,yf⟩:=cells7 hz4
  simp only [Array.getD_eq_getD_getElem?] at h2 h3
  exact bodyPost_ret (v:=.tuple #[.agg #[v0,v1,v2,v3,v4,v5,v6],u3]) (by simp [results,Tryz.results18,go_sem,h2,h3,y0,y1,y2,y3,y4,y5,y6]) rfl hR4
set_option maxRecDepth 100000 in
set_option maxHeartbeats 40000000 in
theorem fr_retd {w3:World} {B:Nat} {a0 a1 a2 a3 a4 a5 a6 v0 v1 v2 v3 v4 v5 v6 u3:Value} {tmps:Array Value} {R:Ending→World→Prop} (h2:tmps.getD 2 undef=.pointer (some ⟨B,0,none⟩)) (h3:tmps.getD 3 undef=u3)
    (hz:w3.heap[B]?=some (.cells #[a0,a1,a2,a3,a4,a5,a6] 30 (0,0)))
    (hR:∀ w',(∀ w0 r,World.grownBy w0 w3 r→w0.heap.size≤B→World.grownBy w0 w' r)→R (.returned (.tuple #[.agg #[v0,v1,v2,v3,v4,v5,v6],u3])) w'):bodyPost Tryz.prog Tryz.f18 R Exit.ret { tmps:=tmps,defers:=[] } (set7 w3 B v0 v1 v2 v3 v4 v5 v6).drew:=by
  have hz4:=set7_at hz v0 v1 v2 v3 v4 v5 v6
  have hR4:=hR (set7 w3 B v0 v1 v2 v3 v4 v5 v6).drew (fun w0 r hg hB=>gr_drew (set7_gr hg hB v0 v1 v2 v3 v4 v5 v6))
  generalize set7 w3 B v0 v1 v2 v3 v4 v5 v6=w4 at *
  have hz5:w4.drew.heap[B]?=some (.cells #[v0,v1,v2,v3,v4,v5,v6] 30 (0,0)):=hz4
  obtain ⟨y0,y1,y2,y3,y4,y5,y6,yf⟩:=cells7 hz5
  simp only [Array.getD_eq_getD_getElem?] at h2 h3
  exact bodyPost_ret (v:=.tuple #[.agg #[v0,v1,v2,v3,v4,v5,v6],u3]) (by simp [results,Tryz.results18,go_sem,h2,h3,y0,y1,y2,y3,y4,y5,y6]) rfl hR4
def FrPost (w w':World) (p:PO) (e:Ending):Prop:=e=.returned (.tuple #[valOf (valP p) nilS nilS,.bool true])∧w.grownBy w' none
def Z30:Obj:=.cells #[.int .i64 0,.int .i64 0,.int .i64 0,.float .f64 0,.string ⟨#[]⟩,.slice none 0 0,.slice none 0 0] 30 (0,0)
theorem fr_world (w:World) (o:Obj):w.grownBy ((w.alloc o).alloc Z30) none∧((w.alloc o).alloc Z30).heap[w.heap.size]?=some o∧((w.alloc o).alloc Z30).heap[w.heap.size + 1]?=some Z30 :=
  ⟨gr_alloc (gr_alloc (World.grownBy.refl w none) _) _,(alloc2 w w.heap.size rfl o Z30).1,(alloc2 w w.heap.size rfl o Z30).2⟩
set_option maxRecDepth 100000 in
set_option maxHeartbeats 40000000 in
theorem fr_null (ko vo:Option Addr) (kc vc:Nat) (w:World):Calls Tryz.prog 18 #[objV (.null) (.slice ko 0 kc) (.slice vo 0 vc)] w fun e w'=>FrPost w w' (.null) e:=by
  have honly:=fun w=>only_null ko vo kc vc w
  obtain ⟨hg0,hb0,hz0⟩:=fr_world w (.cells (o7 (.null) (.slice ko 0 kc) (.slice vo 0 vc)).toArray 26)
  unfold objV o7 Z30 kO iO gO rO tO at *
  go_enter Tryz.func18,Tryz.ntmps18
  go_wp2_with fail
  refine (honly _).mono ?_
  rintro e w1 ⟨rfl,hg1⟩
  have hb1:=(hg1.block _ (Array.getElem?_eq_some_iff.1 hb0).1 (by simp)).trans hb0
  have hz1:=(hg1.block _ (Array.getElem?_eq_some_iff.1 hz0).1 (by simp)).trans hz0
  obtain ⟨y0,y1,y2,y3,y4,y5,y6,yf⟩:=cells7 hb1
  obtain ⟨z0,z1,z2,z3,z4,z5,z6,zf⟩:=cells7 hz1
  have HZ:=Lib.hid hz1
  have HG:=Lib.hid (hg0.trans hg1)
  clear hg0 hb0 hz0 hg1 hb1 hz1 honly
  go_wp2_with fail
  refine fr_ret rfl rfl HZ.out ?_
  intro w' _ _ hgr
  exact ⟨rfl,hgr _ _ HG.out (by omega)⟩
set_option maxRecDepth 100000 in
set_option maxHeartbeats 40000000 in
theorem fr_btrue (ko vo:Option Addr) (kc vc:Nat) (w:World):Calls Tryz.prog 18 #[objV (.bool true) (.slice ko 0 kc) (.slice vo 0 vc)] w fun e w'=>FrPost w w' (.bool true) e:=by
  have honly:=fun w=>only_btrue ko vo kc vc w
  obtain ⟨hg0,hb0,hz0⟩:=fr_world w (.cells (o7 (.bool true) (.slice ko 0 kc) (.slice vo 0 vc)).toArray 26)
  unfold objV o7 Z30 kO iO gO rO tO at *
  go_enter Tryz.func18,Tryz.ntmps18
  go_wp2_with fail
  refine (honly _).mono ?_
  rintro e w1 ⟨rfl,hg1⟩
  have hb1:=(hg1.block _ (Array.getElem?_eq_some_iff.1 hb0).1 (by simp)).trans hb0
  have hz1:=(hg1.block _ (Array.getElem?_eq_some_iff.1 hz0).1 (by simp)).trans hz0
  obtain ⟨y0,y1,y2,y3,y4,y5,y6,yf⟩:=cells7 hb1
  obtain ⟨z0,z1,z2,z3,z4,z5,z6,zf⟩:=cells7 hz1
  have HZ:=Lib.hid hz1
  have HG:=Lib.hid (hg0.trans hg1)
  clear hg0 hb0 hz0 hg1 hb1 hz1 honly
  go_wp2_with fail
  go_region
  go_wp2_with fail
  refine fr_retd rfl rfl HZ.out ?_
  intro w' hgr
  exact ⟨rfl,hgr _ _ HG.out (by omega)⟩
set_option maxRecDepth 100000 in
set_option maxHeartbeats 40000000 in
theorem fr_bfalse (ko vo:Option Addr) (kc vc:Nat) (w:World):Calls Tryz.prog 18 #[objV (.bool false) (.slice ko 0 kc) (.slice vo 0 vc)] w fun e w'=>FrPost w w' (.bool false) e:=by
  have honly:=fun w=>only_bfalse ko vo kc vc w
  obtain ⟨hg0,hb0,hz0⟩:=fr_world w (.cells (o7 (.bool false) (.slice ko 0 kc) (.slice vo 0 vc)).toArray 26)
  unfold objV o7 Z30 kO iO gO rO tO at *
  go_enter Tryz.func18,Tryz.ntmps18
  go_wp2_with fail
  refine (honly _).mono ?_
  rintro e w1 ⟨rfl,hg1⟩
  have hb1:=(hg1.block _ (Array.getElem?_eq_some_iff.1 hb0).1 (by simp)).trans hb0
  have hz1:=(hg1.block _ (Array.getElem?_eq_some_iff.1 hz0).1 (by simp)).trans hz0
  obtain ⟨y0,y1,y2,y3,y4,y5,y6,yf⟩:=cells7 hb1
  obtain ⟨z0,z1,z2,z3,z4,z5,z6,zf⟩:=cells7 hz1
  have HZ:=Lib.hid hz1
  have HG:=Lib.hid (hg0.trans hg1)
  clear hg0 hb0 hz0 hg1 hb1 hz1 honly
  go_wp2_with fail
  go_region
  go_wp2_with fail
  refine fr_retd rfl rfl HZ.out ?_
  intro w' hgr
  exact ⟨rfl,hgr _ _ HG.out (by omega)⟩
set_option maxRecDepth 100000 in
set_option maxHeartbeats 40000000 in
theorem fr_int (n:Int) (h1:-2147483648≤n) (h2:n < 2147483648) (ko vo:Option Addr) (kc vc:Nat) (w:World):Calls Tryz.prog 18 #[objV (.int n) (.slice ko 0 kc) (.slice vo 0 vc)] w fun e w'=>FrPost w w' (.int n) e:=by
  have honly:=fun w=>only_int n ko vo kc vc w
  obtain ⟨hg0,hb0,hz0⟩:=fr_world w (.cells (o7 (.int n) (.slice ko 0 kc) (.slice vo 0 vc)).toArray 26)
  unfold objV o7 Z30 kO iO gO rO tO at *
  go_enter Tryz.func18,Tryz.ntmps18
  go_wp2_with fail
  refine (honly _).mono ?_
  rintro e w1 ⟨rfl,hg1⟩
  have hb1:=(hg1.block _ (Array.getElem?_eq_some_iff.1 hb0).1 (by simp)).trans hb0
  have hz1:=(hg1.block _ (Array.getElem?_eq_some_iff.1 hz0).1 (by simp)).trans hz0
  obtain ⟨y0,y1,y2,y3,y4,y5,y6,yf⟩:=cells7 hb1
  obtain ⟨z0,z1,z2,z3,z4,z5,z6,zf⟩:=cells7 hz1
  have HZ:=Lib.hid hz1
  have HG:=Lib.hid (hg0.trans hg1)
  clear hg0 hb0 hz0 hg1 hb1 hz1 honly
  go_wp2_with fail
  go_region
  go_wp2_with fail
  refine fr_retd rfl rfl HZ.out ?_
  intro w' hgr
  exact ⟨rfl,hgr _ _ HG.out (by omega)⟩
end Go.Proofs.YtfkecmlmnhbmoaaGreatDoor
namespace Go.Proofs.YtfkecmlmnhbmoaaGreatDoor
open Go Go.RowKit
open Go.Maps
set_option maxRecDepth 100000 in
set_option maxHeartbeats 40000000 in
theorem fr_ref (n g:Int) (h1:0 < n) (h2:n < 2147483648) (h3:0≤g) (h4:g≤65535) (ko vo:Option Addr) (kc vc:Nat) (w:World):Calls Tryz.prog 18 #[objV (.ref n g) (.slice ko 0 kc) (.slice vo 0 vc)] w fun e w'=>FrPost w w' (.ref n g) e:=by
  have honly:=fun w=>only_ref n g ko vo kc vc w
  obtain ⟨hg0,hb0,hz0⟩:=fr_world w (.cells (o7 (.ref n g) (.slice ko 0 kc) (.slice vo 0 vc)).toArray 26)
  unfold objV o7 Z30 kO iO gO rO tO at *
  go_enter Tryz.func18,Tryz.ntmps18
  go_wp2_with fail
  refine (honly _).mono ?_
  rintro e w1 ⟨rfl,hg1⟩
  have hb1:=(hg1.block _ (Array.getElem?_eq_some_iff.1 hb0).1 (by simp)).trans hb0
  have hz1:=(hg1.block _ (Array.getElem?_eq_some_iff.1 hz0).1 (by simp)).trans hz0
  obtain ⟨y0,y1,y2,y3,y4,y5,y6,yf⟩:=cells7 hb1
  obtain ⟨z0,z1,z2,z3,z4,z5,z6,zf⟩:=cells7 hz1
  have HZ:=Lib.hid hz1
  have HG:=Lib.hid (hg0.trans hg1)
  clear hg0 hb0 hz0 hg1 hb1 hz1 honly
  go_wp2_with fail
  go_region
  go_wp2_with fail
  refine fr_retd rfl rfl HZ.out ?_
  intro w' hgr
  exact ⟨rfl,hgr _ _ HG.out (by omega)⟩
set_option maxRecDepth 100000 in
set_option maxHeartbeats 40000000 in
theorem fr_lit (s t:By) (h:litF (40::(s ++ [41])) 0 []=some (t,[])) (hl:s.length≤1000000) (ko vo:Option Addr) (kc vc:Nat) (w:World):Calls Tryz.prog 18 #[objV (.lit s) (.slice ko 0 kc) (.slice vo 0 vc)] w fun e w'=>FrPost w w' (.lit s) e:=by
  have HT:=Lib.hid (show litT s=t by simp only [litT,h])
  have honly:=fun w=>only_lit s ko vo kc vc w
  obtain ⟨hg0,hb0,hz0⟩:=fr_world w (.cells (o7 (.lit s) (.slice ko 0 kc) (.slice vo 0 vc)).toArray 26)
  unfold objV o7 Z30 kO iO gO rO tO at *
  go_enter Tryz.func18,Tryz.ntmps18
  go_wp2_with fail
  refine (honly _).mono ?_
  rintro e w1 ⟨rfl,hg1⟩
  have hb1:=(hg1.block _ (Array.getElem?_eq_some_iff.1 hb0).1 (by simp)).trans hb0
  have hz1:=(hg1.block _ (Array.getElem?_eq_some_iff.1 hz0).1 (by simp)).trans hz0
  obtain ⟨y0,y1,y2,y3,y4,y5,y6,yf⟩:=cells7 hb1
  obtain ⟨z0,z1,z2,z3,z4,z5,z6,zf⟩:=cells7 hz1
  have HZ:=Lib.hid hz1
  have HG:=Lib.hid (hg0.trans hg1)
  clear hg0 hb0 hz0 hg1 hb1 hz1 honly
  go_wp2_with fail
  refine (litbytes_any s t h hl _).mono ?_
  rintro e w2 ⟨rfl,hg2⟩
  have hz2:=(hg2.block _ (Array.getElem?_eq_some_iff.1 HZ.out).1 (by simp)).trans HZ.out
  have HZ2:=Lib.hid hz2
  have HG2:=Lib.hid (HG.out.trans hg2)
  clear y0 y1 y2 y3 y4 y5 y6 yf z0 z1 z2 z3 z4 z5 z6 zf
  obtain ⟨z0,z1,z2,z3,z4,z5,z6,zf⟩:=cells7 hz2
  clear hz2 hg2
  go_wp2_with fail
  refine fr_ret rfl rfl HZ2.out ?_
  intro w' _ _ hgr
  exact ⟨by simp only [valP,HT.out];rfl,hgr _ _ HG2.out (by omega)⟩
set_option maxRecDepth 100000 in
set_option maxHeartbeats 40000000 in
theorem fr_hexl (s t:By) (hs:∀ c∈s,0≤hexVal (c.toNat:Int)) (h:hexF (s ++ [62]) false 0 [] false=(0,t,[],false)) (hl:s.length≤1000000) (ko vo:Option Addr) (kc vc:Nat) (w:World):Calls Tryz.prog 18 #[objV (.hexl s) (.slice ko 0 kc) (.slice vo 0 vc)] w fun e w'=>FrPost w w' (.hexl s) e:=by
  have HT:=Lib.hid (show hexT s=t by simp only [hexT,h])
  have honly:=fun w=>only_hexl s ko vo kc vc w
  obtain ⟨hg0,hb0,hz0⟩:=fr_world w (.cells (o7 (.hexl s) (.slice ko 0 kc) (.slice vo 0 vc)).toArray 26)
  unfold objV o7 Z30 kO iO gO rO tO at *
  go_enter Tryz.func18,Tryz.ntmps18
  go_wp2_with fail
  refine (honly _).mono ?_
  rintro e w1 ⟨rfl,hg1⟩
  have hb1:=(hg1.block _ (Array.getElem?_eq_some_iff.1 hb0).1 (by simp)).trans hb0
  have hz1:=(hg1.block _ (Array.getElem?_eq_some_iff.1 hz0).1 (by simp)).trans hz0
  obtain ⟨y0,y1,y2,y3,y4,y5,y6,yf⟩:=cells7 hb1
  obtain ⟨z0,z1,z2,z3,z4,z5,z6,zf⟩:=cells7 hz1
  have HZ:=Lib.hid hz1
  have HG:=Lib.hid (hg0.trans hg1)
  clear hg0 hb0 hz0 hg1 hb1 hz1 honly
  go_wp2_with fail
  refine (hexbytes_any s t hs h hl _).mono ?_
  rintro e w2 ⟨rfl,hg2⟩
  have hz2:=(hg2.block _ (Array.getElem?_eq_some_iff.1 HZ.out).1 (by simp)).trans HZ.out
  have HZ2:=Lib.hid hz2
  have HG2:=Lib.hid (HG.out.trans hg2)
  clear y0 y1 y2 y3 y4 y5 y6 yf z0 z1 z2 z3 z4 z5 z6 zf
  obtain ⟨z0,z1,z2,z3,z4,z5,z6,zf⟩:=cells7 hz2
  clear hz2 hg2
  go_wp2_with fail
  refine fr_ret rfl rfl HZ2.out ?_
  intro w' _ _ hgr
  exact ⟨by simp only [valP,HT.out];rfl,hgr _ _ HG2.out (by omega)⟩
set_option maxRecDepth 100000 in
set_option maxHeartbeats 40000000 in
theorem fr_name (s:By) (hs:∀ c∈s,(c.toNat:Int)≠0) (hl:s.length≤1000000) (ko vo:Option Addr) (kc vc:Nat) (w:World):Calls Tryz.prog 18 #[objV (.name s) (.slice ko 0 kc) (.slice vo 0 vc)] w fun e w'=>FrPost w w' (.name s) e:=by
  have hnm:=fun w=>nameable_any s hs hl w
  have Hnm:=Lib.hid hnm
  clear hnm
  have honly:=fun w=>only_name s ko vo kc vc w
  obtain ⟨hg0,hb0,hz0⟩:=fr_world w (.cells (o7 (.name s) (.slice ko 0 kc) (.slice vo 0 vc)).toArray 26)
  unfold objV o7 Z30 kO iO gO rO tO at *
  go_enter Tryz.func18,Tryz.ntmps18
  go_wp2_with fail
  refine (honly _).mono ?_
  rintro e w1 ⟨rfl,hg1⟩
  have hb1:=(hg1.block _ (Array.getElem?_eq_some_iff.1 hb0).1 (by simp)).trans hb0
  have hz1:=(hg1.block _ (Array.getElem?_eq_some_iff.1 hz0).1 (by simp)).trans hz0
  obtain ⟨y0,y1,y2,y3,y4,y5,y6,yf⟩:=cells7 hb1
  obtain ⟨z0,z1,z2,z3,z4,z5,z6,zf⟩:=cells7 hz1
  have HZ:=Lib.hid hz1
  have HG:=Lib.hid (hg0.trans hg1)
  clear hg0 hb0 hz0 hg1 hb1 hz1 honly
  go_wp2_with fail
  go_region_law
    (first
      | (go_simp;go_at_call 35;refine (Hnm.out _).mono ?_;rintro e w2 ⟨rfl,hw2⟩;subst w2))
  all_goals
    go_wp2_with fail
    refine fr_retd rfl rfl HZ.out ?_
    intro w' hgr
    exact ⟨rfl,hgr _ _ HG.out (by omega)⟩
end Go.Proofs.YtfkecmlmnhbmoaaGreatDoor
namespace Go.Proofs.YtfkecmlmnhbmoaaGreatDoor
open Go Go.RowKit
open Go.Maps
set_option maxRecDepth 100000 in
set_option maxHeartbeats 40000000 in
theorem fo_ret {w3:World} {B:Nat} {a0 a1 a2 a3 a4 a5 a6 v0 v1 v2 v3 v4 v5 v6 u3:Value} {tmps:Array Value} {R:Ending→World→Prop} (h2:tmps.getD 2 undef=.pointer (some ⟨B,0,none⟩)) (h3:tmps.getD 3 undef=u3)
    (hz:w3.heap[B]?=some (.cells #[a0,a1,a2,a3,a4,a5,a6] 30 (0,0)))
    (hR:∀ w',(∀ w0 r,World.grownBy w0 w3 r→w0.heap.size≤B→World.grownBy w0 w' r)→R (.returned (.tuple #[.agg #[v0,v1,v2,v3,v4,v5,v6],u3])) w'):bodyPost Tryz.prog Tryz.f7 R Exit.ret { tmps:=tmps,defers:=[] } (set7 w3 B v0 v1 v2 v3 v4 v5 v6):=by
  have hz4:=set7_at hz v0 v1 v2 v3 v4 v5 v6
  have hR4:=hR _ (fun w0 r hg hB=>set7_gr hg hB v0 v1 v2 v3 v4 v5 v6)
  generalize set7 w3 B v0 v1 v2 v3 v4 v5 v6=w4 at *
  obtain ⟨y0,y1,y2,y3,y4,y5,y6,yf⟩:=cells7 hz4
  simp only [Array.getD_eq_getD_getElem?] at h2 h3
  exact bodyPost_ret (v:=.tuple #[.agg #[v0,v1,v2,v3,v4,v5,v6],u3]) (by simp [results,Tryz.results7,go_sem,h2,h3,y0,y1,y2,y3,y4,y5,y6]) rfl hR4
set_option maxRecDepth 100000 in
set_option maxHeartbeats 40000000 in
theorem fo_leaf (p:PO) (ko vo:Option Addr) (kc vc:Nat) (hl:(tO p).length≤250000) (hfr:∀ w,Calls Tryz.prog 18 #[objV p (.slice ko 0 kc) (.slice vo 0 vc)] w fun e w'=>FrPost w w' p e) (w:World) :
    Calls Tryz.prog 7 #[objV p (.slice ko 0 kc) (.slice vo 0 vc)] w fun e w'=>FrPost w w' p e:=by
  unfold objV at *
  have hz:(bs (tO p)).size≤300000:=by rw [bs_size];omega
  generalize kO p=k at *
  generalize iO p=i at *
  generalize gO p=g at *
  generalize rO p=r at *
  generalize bs (tO p)=z at *
  clear hl
  obtain ⟨a0,a1,a2,a3⟩:=alloc3 w (.cells #[.int .i64 k,.int .i64 i,.int .i64 g,.float .f64 r,.string z,.slice ko 0 kc,.slice vo 0 vc] 26) Z30 (.cells #[.int .i64 20000] 3)
  have hg0:w.grownBy (((w.alloc (.cells #[.int .i64 k,.int .i64 i,.int .i64 g,.float .f64 r,.string z,.slice ko 0 kc,.slice vo 0 vc] 26)).alloc Z30).alloc (.cells #[.int .i64 20000] 3)) none:=gr_alloc (gr_alloc (gr_alloc (World.grownBy.refl w none) _) _) _
  have hfew:=few_leaf k i g r z ko vo kc vc (w.heap.size + 1 + 1) _ hz a2
  unfold Z30 at *
  have Hfr:=Lib.hid hfr
  clear hfr
  go_enter Tryz.func7,Tryz.ntmps7
  go_wp2_with fail
  refine hfew.mono ?_
  rintro e w1 ⟨rfl,hg1⟩
  have hb1:=(hg1.block _ (Array.getElem?_eq_some_iff.1 a0).1 (by simp;omega)).trans a0
  have hz1:=(hg1.block _ (Array.getElem?_eq_some_iff.1 a1).1 (by simp)).trans a1
  have hG1:w.grownBy w1 none:=gr_noneThen hg0 hg1 (fun k hk=>by injection hk with hk;omega)
  obtain ⟨y0,y1,y2,y3,y4,y5,y6,yf⟩:=cells7 hb1
  have HZ:=Lib.hid hz1
  have HG:=Lib.hid hG1
  clear hg0 a0 a1 a2 a3 hg1 hb1 hz1 hfew hG1
  go_wp2_with fail
  refine (Hfr.out _).mono ?_
  rintro e w2 ⟨he,hg2⟩
  have hz2:=(hg2.block _ (Array.getElem?_eq_some_iff.1 HZ.out).1 (by simp)).trans HZ.out
  obtain ⟨z0,z1,z2,z3,z4,z5,z6,zf⟩:=cells7 hz2
  have HZ2:=Lib.hid hz2
  have HG2:=Lib.hid (HG.out.trans hg2)
  unfold valOf nilS at he
  subst he
  clear hz2 hg2
  go_wp2_with fail
  refine fo_ret rfl rfl HZ2.out ?_
  intro w' hgr
  exact ⟨rfl,hgr _ _ HG2.out (by omega)⟩
end Go.Proofs.YtfkecmlmnhbmoaaGreatDoor
namespace Go.Proofs.YtfkecmlmnhbmoaaGreatDoor
open Go Go.RowKit
open Go.Maps
set_option maxRecDepth 100000 in
set_option maxHeartbeats 40000000 in
theorem fp_ret {w3:World} {B:Nat} {a0 a1 a2 a3 a4 a5 a6 v0 v1 v2 v3 v4 v5 v6 u3:Value} {tmps:Array Value} {R:Ending→World→Prop} (h2:tmps.getD 2 undef=.pointer (some ⟨B,0,none⟩)) (h3:tmps.getD 3 undef=u3)
    (hz:w3.heap[B]?=some (.cells #[a0,a1,a2,a3,a4,a5,a6] 30 (0,0)))
    (hR:∀ w',(∀ k,k≠B→w'.heap[k]?=w3.heap[k]?)→w'.heap.size=w3.heap.size→(∀ w0 r,World.grownBy w0 w3 r→w0.heap.size≤B→World.grownBy w0 w' r)→R (.returned (.tuple #[.agg #[v0,v1,v2,v3,v4,v5,v6],u3])) w'):bodyPost Tryz.prog Tryz.f14 R Exit.ret { tmps:=tmps,defers:=[] } (set7 w3 B v0 v1 v2 v3 v4 v5 v6):=by
  have hz4:=set7_at hz v0 v1 v2 v3 v4 v5 v6
  have hR4:=hR _ (fun k hk=>set7_other w3 B k v0 v1 v2 v3 v4 v5 v6 hk) (set7_size w3 B v0 v1 v2 v3 v4 v5 v6) (fun w0 r hg hB=>set7_gr hg hB v0 v1 v2 v3 v4 v5 v6)
  generalize set7 w3 B v0 v1 v2 v3 v4 v5 v6=w4 at *
  obtain ⟨y0,y1,y2,y3,y4,y5,y6,yf⟩:=cells7 hz4
  simp only [Array.getD_eq_getD_getElem?] at h2 h3
  exact bodyPost_ret (v:=.tuple #[.agg #[v0,v1,v2,v3,v4,v5,v6],u3]) (by simp [results,Tryz.results14,go_sem,h2,h3,y0,y1,y2,y3,y4,y5,y6]) rfl hR4
set_option maxRecDepth 100000 in
set_option maxHeartbeats 40000000 in
theorem fp_ret0 {w4:World} {B:Nat} {v0 v1 v2 v3 v4 v5 v6 u3:Value} {tmps:Array Value} {R:Ending→World→Prop} (h2:tmps.getD 2 undef=.pointer (some ⟨B,0,none⟩)) (h3:tmps.getD 3 undef=u3)
    (hz:w4.heap[B]?=some (.cells #[v0,v1,v2,v3,v4,v5,v6] 30 (0,0))) (hR:R (.returned (.tuple #[.agg #[v0,v1,v2,v3,v4,v5,v6],u3])) w4):bodyPost Tryz.prog Tryz.f14 R Exit.ret { tmps:=tmps,defers:=[] } w4:=by
  obtain ⟨y0,y1,y2,y3,y4,y5,y6,yf⟩:=cells7 hz
  simp only [Array.getD_eq_getD_getElem?] at h2 h3
  exact bodyPost_ret (v:=.tuple #[.agg #[v0,v1,v2,v3,v4,v5,v6],u3]) (by simp [results,Tryz.results14,go_sem,h2,h3,y0,y1,y2,y3,y4,y5,y6]) rfl hR
def FPPost (S:Nat→Prop) (w w':World) (p:PO) (e:Ending):Prop :=
  ∃ ks vs S',e=.returned (.tuple #[valOf (valP p) ks vs,.bool true])∧IsV S' w' (valP p) ks vs∧(∀ k,S' k→(S k∨w.heap.size≤k)∧k < w'.heap.size)∧w.grownBy w' none
def FP (p:PO):Prop:=∀ (S:Nat→Prop) (w:World) (ks vs:Value),okP p→IsO S w p ks vs→(∀ k,S k→k < w.heap.size)→Calls Tryz.prog 14 #[objV p ks vs] w fun e w'=>FPPost S w w' p e
set_option maxRecDepth 100000 in
set_option maxHeartbeats 40000000 in
theorem fp_leaf (p:PO) (ko vo:Option Addr) (kc vc:Nat) (S:Nat→Prop) (h3:(kO p == 3)=false) (h7:(kO p == 7)=false) (h8:(kO p == 8)=false) (hp:match valP p with | .arr _=>False | .dict _ _=>False | _=>True) (hfo:∀ w,Calls Tryz.prog 7 #[objV p (.slice ko 0 kc) (.slice vo 0 vc)] w fun e w'=>FrPost w w' p e) (w:World) :
    Calls Tryz.prog 14 #[objV p (.slice ko 0 kc) (.slice vo 0 vc)] w fun e w'=>FPPost S w w' p e:=by
  obtain ⟨a0,a1⟩:=alloc2 w w.heap.size rfl (.cells #[.int .i64 (kO p),.int .i64 (iO p),.int .i64 (gO p),.float .f64 (rO p),.string (bs (tO p)),.slice ko 0 kc,.slice vo 0 vc] 26) Z30
  have hg0:w.grownBy ((w.alloc (.cells #[.int .i64 (kO p),.int .i64 (iO p),.int .i64 (gO p),.float .f64 (rO p),.string (bs (tO p)),.slice ko 0 kc,.slice vo 0 vc] 26)).alloc Z30) none:=gr_alloc (gr_alloc (World.grownBy.refl w none) _) _
  have Hp:=Lib.hid hp
  unfold objV Z30 at *
  generalize kO p=k at *
  generalize iO p=i at *
  generalize gO p=g at *
  generalize rO p=r at *
  generalize bs (tO p)=z at *
  have Hg0:=Lib.hid hg0
  have Ha1:=Lib.hid a1
  have Hfo:=Lib.hid hfo
  clear hg0 a0 a1 hfo hp
  go_enter Tryz.func14,Tryz.ntmps14
  go_wp2_with fail
  refine (Hfo.out _).mono ?_
  rintro e w2 ⟨he,hg2⟩
  have hz2:=(hg2.block _ (Array.getElem?_eq_some_iff.1 Ha1.out).1 (by simp)).trans Ha1.out
  obtain ⟨z0,z1,z2,z3,z4,z5,z6,zf⟩:=cells7 hz2
  have HZ2:=Lib.hid hz2
  have HG2:=Lib.hid (Hg0.out.trans hg2)
  unfold valOf nilS at he
  subst he
  clear hz2 hg2
  go_wp2_with fail
  refine fp_ret rfl rfl HZ2.out ?_
  intro w' _ _ hgr
  exact ⟨nilS,nilS,fun _=>False,rfl,IsV.plain Hp.out,fun k hk=>hk.elim,hgr _ _ HG2.out (by omega)⟩
set_option maxRecDepth 100000 in
set_option maxHeartbeats 40000000 in
theorem fp_real (x:Nat) (ko vo:Option Addr) (kc vc:Nat) (S:Nat→Prop) (w:World) :
    Calls Tryz.prog 14 #[objV (.real x) (.slice ko 0 kc) (.slice vo 0 vc)] w fun e w'=>FPPost S w w' (.real x) e:=by
  unfold objV kO iO gO rO tO at *
  go_enter Tryz.func14,Tryz.ntmps14
  go_wp2_with fail
  refine fp_ret0 (v0:=_) (v1:=_) (v2:=_) (v3:=_) (v4:=_) (v5:=_) (v6:=_) rfl rfl (alloc2 w w.heap.size rfl _ _).2 ?_
  exact ⟨nilS,nilS,fun _=>False,rfl,IsV.plain trivial,fun k hk=>hk.elim,gr_alloc (gr_alloc (World.grownBy.refl w none) _) _⟩
end Go.Proofs.YtfkecmlmnhbmoaaGreatDoor
