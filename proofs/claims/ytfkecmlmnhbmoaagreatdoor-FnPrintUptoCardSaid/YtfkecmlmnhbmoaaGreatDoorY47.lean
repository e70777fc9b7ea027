/- The texts Q9 of the workbench, laid together. -/
import Derived.Test.YtfkecmlmnhbmoaaGreatDoorProg
import Derived.WalkKit
import Derived.WalkLawsBesides
import Derived.WalkSpells
import Derived.BigQuiet
import Derived.BigRegion
import Derived.Deep.QuietTactic
import Derived.Deep.RegionHeld3
import Derived.Deep.LoopGhost
import Derived.StillTailTactics
import Derived.Lib.Hide
import Derived.Laws.EntriesVeiled
import Derived.Test.YtfkecmlmnhbmoaaGreatDoorY32
import Derived.Test.YtfkecmlmnhbmoaaGreatDoorY45
set_option linter.unusedVariables false
set_option linter.unusedSimpArgs false
namespace Go.Proofs.YtfkecmlmnhbmoaaGreatDoor
open Go Go.RowKit
open Go.Maps Go.Lib
theorem lvPs_le:∀ (ps:List PO) (p:PO),p∈ps→lvP p≤lvPs ps
 | [],p,h=>by simp at h
 | q::ps,p,h=>by
  simp only [lvPs]
  rcases List.mem_cons.1 h with e | e
  ·subst e;omega
  ·have:=lvPs_le ps p e;omega
theorem prc_all (ff:Nat→By) (R:Nat→Prop) (W0:World) (hT:TabIs Tryz.prog W0 "internal/strconv.uint64pow10" .u64 pow10Tab) (hR:∀ x,R x→FfC W0 x (ff x)):∀ (n:Nat) (p:PO),lvP p≤n→PrC ff R W0 p:=by
 intro n
 induction n with
 | zero=>intro p h;cases p<;>simp [lvP] at h
 | succ n ih =>
  intro p h
  cases p with
  | arr ks=>exact parr ff R W0 ks fun q hq=>ih q (by have:=lvPs_le ks q hq;simp only [lvP] at h;omega)
  | dict ks vs=>exact pdict ff R W0 ks vs fun q hq=>ih q (by have:=lvPs_le vs q hq;simp only [lvP] at h;omega)
  | _=>exact prc_leaf ff R W0 hT hR _ (by simp) (by simp)
set_option maxRecDepth 100000 in
set_option maxHeartbeats 40000000 in
theorem calm23 (w:World) (args:Array Value) (R:World→Prop) (hF:Calls Tryz.prog 23 args (w.alloc (.cells #[.bool false] 4)) fun e w'=>e=.returned (.tuple #[])∧w'.heap[w.heap.size]?=some (.cells #[.bool false] 4 (0,0))∧R w') :
  Calls Tryz.prog 22 #[.func (.func 23) #[] args] w fun e w'=>e=.returned (.bool true)∧∃ w1,R w1∧w1.heap[w.heap.size]?=some (.cells #[.bool false] 4 (0,0))∧w'=w1.setCell ⟨w.heap.size,0,none⟩ (.bool true):=by
 have hmf:∀ (fn:Fn) (first cap:Array Value) (w:World),(Instr.makeFunc fn first cap).run Tryz.prog w=.ok (.func fn first cap) w:=fun _ _ _ _=>rfl
 go_enter_defers Tryz.func22,Tryz.ntmps22
 go_wp2_with fail
 refine hF.mono ?_
 rintro e w1 ⟨rfl,hz,hR⟩
 have c1:w1.cell? ⟨w.heap.size,0,none⟩=some (.bool false):=by simp [World.cell?,hz]
 have f1:w1.frozen? ⟨w.heap.size,0,none⟩=false:=by simp [World.frozen?,hz]
 have HR:=Lib.hid (And.intro hR hz)
 clear hF hR hz
 go_wp2_with fail
 refine leaves_cons (f:=41) (args:=#[.pointer (some ⟨w.heap.size,0,none⟩)]) (by simp) (by simp [go_sem]) ?_
 refine (calm_idle ⟨w.heap.size,0,none⟩ _).mono ?_
 rintro e u' w'' ⟨rfl,rfl,rfl⟩
 have hz2:=cells1_set HR.out.2 (.bool true)
 refine Exists.intro (.bool true) ⟨by simp [results,Tryz.results22,go_sem,World.cell?,hz2],?_⟩
 exact ⟨rfl,w1,HR.out.1,HR.out.2,rfl⟩
@[go_sem] theorem meth_66 (u:Value) (w:World):(method 465 66 u "PDFString").run Tryz.prog w=.ok (260,u) w:=by kernel_rfl
@[go_sem] theorem meth_67 (u:Value) (w:World):(method 465 67 u "PDFString").run Tryz.prog w=.ok (265,u) w:=by kernel_rfl
@[go_sem] theorem meth_68 (u:Value) (w:World):(method 465 68 u "PDFString").run Tryz.prog w=.ok (268,u) w:=by kernel_rfl
@[go_sem] theorem meth_69 (u:Value) (w:World):(method 465 69 u "PDFString").run Tryz.prog w=.ok (271,u) w:=by kernel_rfl
@[go_sem] theorem meth_70 (u:Value) (w:World):(method 465 70 u "PDFString").run Tryz.prog w=.ok (274,u) w:=by kernel_rfl
@[go_sem] theorem meth_71 (u:Value) (w:World):(method 465 71 u "PDFString").run Tryz.prog w=.ok (277,u) w:=by kernel_rfl
@[go_sem] theorem meth_73 (u:Value) (w:World):(method 465 73 u "PDFString").run Tryz.prog w=.ok (285,u) w:=by kernel_rfl
@[go_sem] theorem meth_77 (u:Value) (w:World):(method 465 77 u "PDFString").run Tryz.prog w=.ok (287,u) w:=by kernel_rfl
@[go_sem] theorem meth_81 (u:Value) (w:World):(method 465 81 u "PDFString").run Tryz.prog w=.ok (288,u) w:=by kernel_rfl
def P23 (w w':World) (bt:Nat) (t:ByteArray) (e:Ending):Prop:=e=.returned (.tuple #[])∧w'.heap[bt]?=some (.cells #[.string t] 9 (0,0))∧w.grownBy w' (some bt)
set_option maxRecDepth 100000 in
set_option maxHeartbeats 40000000 in
theorem pr23 (p:PO) (hp:p≠.null) (t:By) (u:Value) (bo bt:Nat) (w:World) (ho:w.heap[bo]?=some (.cells #[.iface (tyP p) u] 50 (0,0))) (ht:w.heap[bt]?=some (.cells #[.string ⟨#[]⟩] 9 (0,0)))
  (hc:Calls Tryz.prog (fnP p) #[u] w fun e w'=>e=.returned (.string (bs t))∧w.grownBy w' none) :
  Calls Tryz.prog 23 #[.pointer (some ⟨bo,0,none⟩),.pointer (some ⟨bt,0,none⟩)] w fun e w'=>P23 w w' bt (bs t) e:=by
 have c1:w.cell? ⟨bo,0,none⟩=some (.iface (tyP p) u):=by simp [World.cell?,ho]
 have hbt:=(Array.getElem?_eq_some_iff.1 ht).1
 have Ht:=Lib.hid ht
 have Hc:=Lib.hid hc
 clear ho ht hc
 generalize bs t=z at *
 cases p with
 | null=>exact absurd rfl hp
 | bool x =>
  clear hp
  have c2:w.cell? ⟨bo,0,none⟩=some (.iface 66 u):=c1
  have Hd:=Lib.hid (show Calls Tryz.prog 260 _ _ _ from Hc.out)
  clear c1 Hc
  skip
  go_enter Tryz.func23,Tryz.ntmps23
  go_wp2_with fail
  refine Hd.out.mono ?_
  rintro e w2 ⟨rfl,hg2⟩
  have ht2:=(hg2.block bt hbt (by simp)).trans Ht.out
  have d1:w2.cell? ⟨bt,0,none⟩=some (.string ⟨#[]⟩):=by simp [World.cell?,ht2]
  have d2:w2.frozen? ⟨bt,0,none⟩=false:=by simp [World.frozen?,ht2]
  have Hg2:=Lib.hid hg2
  have Ht2:=Lib.hid ht2
  clear hg2 ht2
  go_wp2_with fail
  go_end0
  exact ⟨rfl,cells1_set Ht2.out _,gr_set (World.grownBy.trans ⟨Hg2.out.os,Hg2.out.tape,Hg2.out.output,Hg2.out.size,fun k hk _=>Hg2.out.block k hk (by simp)⟩ (World.grownBy.refl _ _)) 0 _⟩
 | int x =>
  clear hp
  have c2:w.cell? ⟨bo,0,none⟩=some (.iface 67 u):=c1
  have Hd:=Lib.hid (show Calls Tryz.prog 265 _ _ _ from Hc.out)
  clear c1 Hc
  skip
  go_enter Tryz.func23,Tryz.ntmps23
  go_wp2_with fail
  refine Hd.out.mono ?_
  rintro e w2 ⟨rfl,hg2⟩
  have ht2:=(hg2.block bt hbt (by simp)).trans Ht.out
  have d1:w2.cell? ⟨bt,0,none⟩=some (.string ⟨#[]⟩):=by simp [World.cell?,ht2]
  have d2:w2.frozen? ⟨bt,0,none⟩=false:=by simp [World.frozen?,ht2]
  have Hg2:=Lib.hid hg2
  have Ht2:=Lib.hid ht2
  clear hg2 ht2
  go_wp2_with fail
  go_end0
  exact ⟨rfl,cells1_set Ht2.out _,gr_set (World.grownBy.trans ⟨Hg2.out.os,Hg2.out.tape,Hg2.out.output,Hg2.out.size,fun k hk _=>Hg2.out.block k hk (by simp)⟩ (World.grownBy.refl _ _)) 0 _⟩
 | real x =>
  clear hp
  have c2:w.cell? ⟨bo,0,none⟩=some (.iface 68 u):=c1
  have Hd:=Lib.hid (show Calls Tryz.prog 268 _ _ _ from Hc.out)
  clear c1 Hc
  skip
  go_enter Tryz.func23,Tryz.ntmps23
  go_wp2_with fail
  refine Hd.out.mono ?_
  rintro e w2 ⟨rfl,hg2⟩
  have ht2:=(hg2.block bt hbt (by simp)).trans Ht.out
  have d1:w2.cell? ⟨bt,0,none⟩=some (.string ⟨#[]⟩):=by simp [World.cell?,ht2]
  have d2:w2.frozen? ⟨bt,0,none⟩=false:=by simp [World.frozen?,ht2]
  have Hg2:=Lib.hid hg2
  have Ht2:=Lib.hid ht2
  clear hg2 ht2
  go_wp2_with fail
  go_end0
  exact ⟨rfl,cells1_set Ht2.out _,gr_set (World.grownBy.trans ⟨Hg2.out.os,Hg2.out.tape,Hg2.out.output,Hg2.out.size,fun k hk _=>Hg2.out.block k hk (by simp)⟩ (World.grownBy.refl _ _)) 0 _⟩
 | lit x =>
  clear hp
  have c2:w.cell? ⟨bo,0,none⟩=some (.iface 69 u):=c1
  have Hd:=Lib.hid (show Calls Tryz.prog 271 _ _ _ from Hc.out)
  clear c1 Hc
  skip
  go_enter Tryz.func23,Tryz.ntmps23
  go_wp2_with fail
  refine Hd.out.mono ?_
  rintro e w2 ⟨rfl,hg2⟩
  have ht2:=(hg2.block bt hbt (by simp)).trans Ht.out
  have d1:w2.cell? ⟨bt,0,none⟩=some (.string ⟨#[]⟩):=by simp [World.cell?,ht2]
  have d2:w2.frozen? ⟨bt,0,none⟩=false:=by simp [World.frozen?,ht2]
  have Hg2:=Lib.hid hg2
  have Ht2:=Lib.hid ht2
  clear hg2 ht2
  go_wp2_with fail
  go_end0
  exact ⟨rfl,cells1_set Ht2.out _,gr_set (World.grownBy.trans ⟨Hg2.out.os,Hg2.out.tape,Hg2.out.output,Hg2.out.size,fun k hk _=>Hg2.out.block k hk (by simp)⟩ (World.grownBy.refl _ _)) 0 _⟩
 | hexl x =>
  clear hp
  have c2:w.cell? ⟨bo,0,none⟩=some (.iface 70 u):=c1
  have Hd:=Lib.hid (show Calls Tryz.prog 274 _ _ _ from Hc.out)
  clear c1 Hc
  skip
  go_enter Tryz.func23,Tryz.ntmps23
  go_wp2_with fail
  refine Hd.out.mono ?_
  rintro e w2 ⟨rfl,hg2⟩
  have ht2:=(hg2.block bt hbt (by simp)).trans Ht.out
  have d1:w2.cell? ⟨bt,0,none⟩=some (.string ⟨#[]⟩):=by simp [World.cell?,ht2]
  have d2:w2.frozen? ⟨bt,0,none⟩=false:=by simp [World.frozen?,ht2]
  have Hg2:=Lib.hid hg2
  have Ht2:=Lib.hid ht2
  clear hg2 ht2
  go_wp2_with fail
  go_end0
  exact ⟨rfl,cells1_set Ht2.out _,gr_set (World.grownBy.trans ⟨Hg2.out.os,Hg2.out.tape,Hg2.out.output,Hg2.out.size,fun k hk _=>Hg2.out.block k hk (by simp)⟩ (World.grownBy.refl _ _)) 0 _⟩
 | name x =>
  clear hp
  have c2:w.cell? ⟨bo,0,none⟩=some (.iface 71 u):=c1
  have Hd:=Lib.hid (show Calls Tryz.prog 277 _ _ _ from Hc.out)
  clear c1 Hc
  skip
  go_enter Tryz.func23,Tryz.ntmps23
  go_wp2_with fail
  refine Hd.out.mono ?_
  rintro e w2 ⟨rfl,hg2⟩
  have ht2:=(hg2.block bt hbt (by simp)).trans Ht.out
  have d1:w2.cell? ⟨bt,0,none⟩=some (.string ⟨#[]⟩):=by simp [World.cell?,ht2]
  have d2:w2.frozen? ⟨bt,0,none⟩=false:=by simp [World.frozen?,ht2]
  have Hg2:=Lib.hid hg2
  have Ht2:=Lib.hid ht2
  clear hg2 ht2
  go_wp2_with fail
  go_end0
  exact ⟨rfl,cells1_set Ht2.out _,gr_set (World.grownBy.trans ⟨Hg2.out.os,Hg2.out.tape,Hg2.out.output,Hg2.out.size,fun k hk _=>Hg2.out.block k hk (by simp)⟩ (World.grownBy.refl _ _)) 0 _⟩
 | ref x y =>
  clear hp
  have c2:w.cell? ⟨bo,0,none⟩=some (.iface 73 u):=c1
  have Hd:=Lib.hid (show Calls Tryz.prog 285 _ _ _ from Hc.out)
  clear c1 Hc
  skip
  go_enter Tryz.func23,Tryz.ntmps23
  go_wp2_with fail
  refine Hd.out.mono ?_
  rintro e w2 ⟨rfl,hg2⟩
  have ht2:=(hg2.block bt hbt (by simp)).trans Ht.out
  have d1:w2.cell? ⟨bt,0,none⟩=some (.string ⟨#[]⟩):=by simp [World.cell?,ht2]
  have d2:w2.frozen? ⟨bt,0,none⟩=false:=by simp [World.frozen?,ht2]
  have Hg2:=Lib.hid hg2
  have Ht2:=Lib.hid ht2
  clear hg2 ht2
  go_wp2_with fail
  go_end0
  exact ⟨rfl,cells1_set Ht2.out _,gr_set (World.grownBy.trans ⟨Hg2.out.os,Hg2.out.tape,Hg2.out.output,Hg2.out.size,fun k hk _=>Hg2.out.block k hk (by simp)⟩ (World.grownBy.refl _ _)) 0 _⟩
 | arr x =>
  clear hp
  have c2:w.cell? ⟨bo,0,none⟩=some (.iface 77 u):=c1
  have Hd:=Lib.hid (show Calls Tryz.prog 287 _ _ _ from Hc.out)
  clear c1 Hc
  skip
  go_enter Tryz.func23,Tryz.ntmps23
  go_wp2_with fail
  refine Hd.out.mono ?_
  rintro e w2 ⟨rfl,hg2⟩
  have ht2:=(hg2.block bt hbt (by simp)).trans Ht.out
  have d1:w2.cell? ⟨bt,0,none⟩=some (.string ⟨#[]⟩):=by simp [World.cell?,ht2]
  have d2:w2.frozen? ⟨bt,0,none⟩=false:=by simp [World.frozen?,ht2]
  have Hg2:=Lib.hid hg2
  have Ht2:=Lib.hid ht2
  clear hg2 ht2
  go_wp2_with fail
  go_end0
  exact ⟨rfl,cells1_set Ht2.out _,gr_set (World.grownBy.trans ⟨Hg2.out.os,Hg2.out.tape,Hg2.out.output,Hg2.out.size,fun k hk _=>Hg2.out.block k hk (by simp)⟩ (World.grownBy.refl _ _)) 0 _⟩
 | dict x y =>
  clear hp
  have c2:w.cell? ⟨bo,0,none⟩=some (.iface 81 u):=c1
  have Hd:=Lib.hid (show Calls Tryz.prog 288 _ _ _ from Hc.out)
  clear c1 Hc
  skip
  go_enter Tryz.func23,Tryz.ntmps23
  go_wp2_with fail
  refine Hd.out.mono ?_
  rintro e w2 ⟨rfl,hg2⟩
  have ht2:=(hg2.block bt hbt (by simp)).trans Ht.out
  have d1:w2.cell? ⟨bt,0,none⟩=some (.string ⟨#[]⟩):=by simp [World.cell?,ht2]
  have d2:w2.frozen? ⟨bt,0,none⟩=false:=by simp [World.frozen?,ht2]
  have Hg2:=Lib.hid hg2
  have Ht2:=Lib.hid ht2
  clear hg2 ht2
  go_wp2_with fail
  go_end0
  exact ⟨rfl,cells1_set Ht2.out _,gr_set (World.grownBy.trans ⟨Hg2.out.os,Hg2.out.tape,Hg2.out.output,Hg2.out.size,fun k hk _=>Hg2.out.block k hk (by simp)⟩ (World.grownBy.refl _ _)) 0 _⟩
end Go.Proofs.YtfkecmlmnhbmoaaGreatDoor
