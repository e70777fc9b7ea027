/- FnParse: the texts H1 H2 H3 of the workbench, laid together. -/
import Derived.Test.YtfkecmlmnhbmoaaGreatDoorProg
import Derived.WalkKit
import Derived.WalkLawsBesides
import Derived.WalkSpells
import Derived.BigQuiet
import Derived.BigRegion
import Derived.Deep.QuietTactic
import Derived.Deep.RegionHeld3
import Derived.Deep.LoopGhost
import Derived.StillTailTactics
import Derived.Lib.Hide
import Derived.Laws.EntriesVeiled
import Derived.Sort.OwnSorted
import Derived.Test.YtfkecmlmnhbmoaaGreatDoorZ39
import Derived.Test.YtfkecmlmnhbmoaaGreatDoorZ41
set_option linter.unusedVariables false
set_option linter.unusedSimpArgs false
namespace Go.Proofs.YtfkecmlmnhbmoaaGreatDoor
open Go Go.RowKit
open Go.Maps
def kO:PO→Int
  | .null=>0 | .bool _=>1 | .int _=>2 | .real _=>3 | .lit _=>4 | .hexl _=>5 | .name _=>6 | .arr _=>7 | .dict _ _=>8 | .ref _ _=>9
def iO:PO→Int
  | .bool b=>if b then 1 else 0
  | .int n=>n
  | .ref n _=>n
  | _=>0
def gO:PO→Int
  | .ref _ g=>g
  | _=>0
def rO:PO→Nat
  | .real x=>x
  | _=>0
def tO:PO→By
  | .lit s=>s
  | .hexl s=>s
  | .name s=>s
  | _=>[]
def o7 (p:PO) (ks vs:Value):List Value:=[.int .i64 (kO p),.int .i64 (iO p),.int .i64 (gO p),.float .f64 (rO p),.string (bs (tO p)),ks,vs]
def objV (p:PO) (ks vs:Value):Value:=.agg #[.int .i64 (kO p),.int .i64 (iO p),.int .i64 (gO p),.float .f64 (rO p),.string (bs (tO p)),ks,vs]
mutual
def IsO (S:Nat→Prop) (w:World):PO→Value→Value→Prop
  | .arr kids,ks,vs=>kids.length≤1000000∧SlAt S w ks 1 0 []∧∃ cells,SlAt S w vs 7 kids.length cells∧IsOs S w kids cells
  | .dict keys kids,ks,vs=>KeysOk keys∧keys.length=kids.length∧SlAt S w ks 1 keys.length (kvals keys)∧∃ cells,SlAt S w vs 7 kids.length cells∧IsOs S w kids cells
  | p,ks,vs=>(tO p).length≤250000∧SlAt S w ks 1 0 []∧SlAt S w vs 7 0 []
def IsOs (S:Nat→Prop) (w:World):List PO→List Value→Prop
  | [],cells=>cells=[]
  | x::xs,cells=>∃ ks vs rest,cells=o7 x ks vs ++ rest∧IsO S w x ks vs∧IsOs S w xs rest
end
mutual
theorem IsO.keep {S S':Nat→Prop} {w w':World} (hS:∀ k,S k→S' k∧w'.heap[k]?=w.heap[k]?):∀ (x:PO) (ks vs:Value),IsO S w x ks vs→IsO S' w' x ks vs
  | .arr kids,ks,vs,h=>by
    simp only [IsO] at h ⊢
    obtain ⟨h0,h1,cells,h2,h3⟩:=h
    exact ⟨h0,h1.keep hS,cells,h2.keep hS,IsOs.keep hS kids cells h3⟩
  | .dict keys kids,ks,vs,h=>by
    simp only [IsO] at h ⊢
    obtain ⟨h0,h00,h1,cells,h2,h3⟩:=h
    exact ⟨h0,h00,h1.keep hS,cells,h2.keep hS,IsOs.keep hS kids cells h3⟩
  | .null,ks,vs,h=>by simp only [IsO] at h ⊢;exact ⟨h.1,h.2.1.keep hS,h.2.2.keep hS⟩
  | .bool _,ks,vs,h=>by simp only [IsO] at h ⊢;exact ⟨h.1,h.2.1.keep hS,h.2.2.keep hS⟩
  | .int _,ks,vs,h=>by simp only [IsO] at h ⊢;exact ⟨h.1,h.2.1.keep hS,h.2.2.keep hS⟩
  | .real _,ks,vs,h=>by simp only [IsO] at h ⊢;exact ⟨h.1,h.2.1.keep hS,h.2.2.keep hS⟩
  | .lit _,ks,vs,h=>by simp only [IsO] at h ⊢;exact ⟨h.1,h.2.1.keep hS,h.2.2.keep hS⟩
  | .hexl _,ks,vs,h=>by simp only [IsO] at h ⊢;exact ⟨h.1,h.2.1.keep hS,h.2.2.keep hS⟩
  | .name _,ks,vs,h=>by simp only [IsO] at h ⊢;exact ⟨h.1,h.2.1.keep hS,h.2.2.keep hS⟩
  | .ref _ _,ks,vs,h=>by simp only [IsO] at h ⊢;exact ⟨h.1,h.2.1.keep hS,h.2.2.keep hS⟩
theorem IsOs.keep {S S':Nat→Prop} {w w':World} (hS:∀ k,S k→S' k∧w'.heap[k]?=w.heap[k]?):∀ (xs:List PO) (cells:List Value),IsOs S w xs cells→IsOs S' w' xs cells
  | [],cells,h=>by simp only [IsOs] at h ⊢;exact h
  | x::xs,cells,h=>by
    simp only [IsOs] at h ⊢
    obtain ⟨ks,vs,rest,h1,h2,h3⟩:=h
    exact ⟨ks,vs,rest,h1,IsO.keep hS x ks vs h2,IsOs.keep hS xs rest h3⟩
end
theorem IsOs.append {S:Nat→Prop} {w:World} {ys:List PO} {d:List Value} (hy:IsOs S w ys d):∀ (xs:List PO) (c:List Value),IsOs S w xs c→IsOs S w (xs ++ ys) (c ++ d)
  | [],c,h=>by simp only [IsOs] at h;subst h;simpa using hy
  | x::xs,c,h=>by
    simp only [IsOs,List.cons_append] at h ⊢
    obtain ⟨ks,vs,rest,h1,h2,h3⟩:=h
    exact ⟨ks,vs,rest ++ d,by rw [h1,List.append_assoc],h2,IsOs.append hy xs rest h3⟩
theorem IsOs.one {S:Nat→Prop} {w:World} {x:PO} {ks vs:Value} (h:IsO S w x ks vs):IsOs S w [x] (o7 x ks vs):=by
  simp only [IsOs]
  exact ⟨ks,vs,[],by simp,h,rfl⟩
theorem IsO.slices {S:Nat→Prop} {w:World} {x:PO} {ks vs:Value} (h:IsO S w x ks vs):(∃ o n c,ks=.slice o n c)∧∃ o n c,vs=.slice o n c:=by
  cases x<;>simp only [IsO] at h
  case arr =>
    obtain ⟨_,⟨_,o,c,rfl,_⟩,cells,⟨_,o2,c2,rfl,_⟩,_⟩:=h
    exact ⟨⟨_,_,_,rfl⟩,_,_,_,rfl⟩
  case dict =>
    obtain ⟨_,_,⟨_,o,c,rfl,_⟩,cells,⟨_,o2,c2,rfl,_⟩,_⟩:=h
    exact ⟨⟨_,_,_,rfl⟩,_,_,_,rfl⟩
  all_goals
    obtain ⟨_,⟨_,o,c,rfl,_⟩,⟨_,o2,c2,rfl,_⟩⟩:=h
    exact ⟨⟨_,_,_,rfl⟩,_,_,_,rfl⟩
def TellPost (w w':World) (p:PO) (e:Ending):Prop:=∃ ks vs S,e=.returned (.tuple #[objV p ks vs,.bool true])∧IsO S w' p ks vs∧(∀ k,S k→w.heap.size≤k∧k < w'.heap.size)∧w.grownBy w' none
set_option maxRecDepth 100000 in
set_option maxHeartbeats 40000000 in
theorem tell_ret {w4:World} {B:Nat} {v0 v1 v2 v3 v4 v5 v6 u3:Value} {tmps:Array Value} {R:Ending→World→Prop} (h2:tmps.getD 2 undef=.pointer (some ⟨B,0,none⟩)) (h3:tmps.getD 3 undef=u3)
    (hz:w4.heap[B]?=some (.cells #[v0,v1,v2,v3,v4,v5,v6] 26 (0,0))) (hR:R (.returned (.tuple #[.agg #[v0,v1,v2,v3,v4,v5,v6],u3])) w4):bodyPost Tryz.prog Tryz.f55 R Exit.ret { tmps:=tmps,defers:=[] } w4:=by
  obtain ⟨y0,y1,y2,y3,y4,y5,y6,yf⟩:=cells7 hz
  simp only [Array.getD_eq_getD_getElem?] at h2 h3
  exact bodyPost_ret (v:=.tuple #[.agg #[v0,v1,v2,v3,v4,v5,v6],u3]) (by simp [results,Tryz.results55,go_sem,h2,h3,y0,y1,y2,y3,y4,y5,y6]) rfl hR
theorem TellPost.leaf {w:World} {p:PO} {o:Obj} {e:Ending} (he:e=.returned (.tuple #[objV p nilS nilS,.bool true])) (h:∀ S w,IsO S w p nilS nilS):TellPost w (w.alloc o) p e :=
  ⟨nilS,nilS,fun _=>False,he,h _ _,fun k hk=>hk.elim,gr_alloc (World.grownBy.refl w none) _⟩
@[go_sem] theorem ta_66_66 (v:Value) (w:World):(Instr.typeAssert (.iface 66 v) 50 66 true).run Tryz.prog w=.ok (.tuple #[v,.bool true]) w:=by kernel_rfl
@[go_sem] theorem ta_67_67 (v:Value) (w:World):(Instr.typeAssert (.iface 67 v) 50 67 true).run Tryz.prog w=.ok (.tuple #[v,.bool true]) w:=by kernel_rfl
@[go_sem] theorem ta_67_66 (v:Value) (w:World):(Instr.typeAssert (.iface 67 v) 50 66 true).run Tryz.prog w=.ok (.tuple #[.bool false,.bool false]) w:=by kernel_rfl
@[go_sem] theorem ta_68_68 (v:Value) (w:World):(Instr.typeAssert (.iface 68 v) 50 68 true).run Tryz.prog w=.ok (.tuple #[v,.bool true]) w:=by kernel_rfl
@[go_sem] theorem ta_68_66 (v:Value) (w:World):(Instr.typeAssert (.iface 68 v) 50 66 true).run Tryz.prog w=.ok (.tuple #[.bool false,.bool false]) w:=by kernel_rfl
@[go_sem] theorem ta_68_67 (v:Value) (w:World):(Instr.typeAssert (.iface 68 v) 50 67 true).run Tryz.prog w=.ok (.tuple #[.int .i64 0,.bool false]) w:=by kernel_rfl
@[go_sem] theorem ta_69_69 (v:Value) (w:World):(Instr.typeAssert (.iface 69 v) 50 69 true).run Tryz.prog w=.ok (.tuple #[v,.bool true]) w:=by kernel_rfl
@[go_sem] theorem ta_69_66 (v:Value) (w:World):(Instr.typeAssert (.iface 69 v) 50 66 true).run Tryz.prog w=.ok (.tuple #[.bool false,.bool false]) w:=by kernel_rfl
@[go_sem] theorem ta_69_67 (v:Value) (w:World):(Instr.typeAssert (.iface 69 v) 50 67 true).run Tryz.prog w=.ok (.tuple #[.int .i64 0,.bool false]) w:=by kernel_rfl
@[go_sem] theorem ta_69_68 (v:Value) (w:World):(Instr.typeAssert (.iface 69 v) 50 68 true).run Tryz.prog w=.ok (.tuple #[.float .f64 0,.bool false]) w:=by kernel_rfl
@[go_sem] theorem ta_70_70 (v:Value) (w:World):(Instr.typeAssert (.iface 70 v) 50 70 true).run Tryz.prog w=.ok (.tuple #[v,.bool true]) w:=by kernel_rfl
@[go_sem] theorem ta_70_66 (v:Value) (w:World):(Instr.typeAssert (.iface 70 v) 50 66 true).run Tryz.prog w=.ok (.tuple #[.bool false,.bool false]) w:=by kernel_rfl
@[go_sem] theorem ta_70_67 (v:Value) (w:World):(Instr.typeAssert (.iface 70 v) 50 67 true).run Tryz.prog w=.ok (.tuple #[.int .i64 0,.bool false]) w:=by kernel_rfl
@[go_sem] theorem ta_70_68 (v:Value) (w:World):(Instr.typeAssert (.iface 70 v) 50 68 true).run Tryz.prog w=.ok (.tuple #[.float .f64 0,.bool false]) w:=by kernel_rfl
@[go_sem] theorem ta_70_69 (v:Value) (w:World):(Instr.typeAssert (.iface 70 v) 50 69 true).run Tryz.prog w=.ok (.tuple #[.string ⟨#[]⟩,.bool false]) w:=by kernel_rfl
@[go_sem] theorem ta_71_71 (v:Value) (w:World):(Instr.typeAssert (.iface 71 v) 50 71 true).run Tryz.prog w=.ok (.tuple #[v,.bool true]) w:=by kernel_rfl
@[go_sem] theorem ta_71_66 (v:Value) (w:World):(Instr.typeAssert (.iface 71 v) 50 66 true).run Tryz.prog w=.ok (.tuple #[.bool false,.bool false]) w:=by kernel_rfl
@[go_sem] theorem ta_71_67 (v:Value) (w:World):(Instr.typeAssert (.iface 71 v) 50 67 true).run Tryz.prog w=.ok (.tuple #[.int .i64 0,.bool false]) w:=by kernel_rfl
@[go_sem] theorem ta_71_68 (v:Value) (w:World):(Instr.typeAssert (.iface 71 v) 50 68 true).run Tryz.prog w=.ok (.tuple #[.float .f64 0,.bool false]) w:=by kernel_rfl
@[go_sem] theorem ta_71_69 (v:Value) (w:World):(Instr.typeAssert (.iface 71 v) 50 69 true).run Tryz.prog w=.ok (.tuple #[.string ⟨#[]⟩,.bool false]) w:=by kernel_rfl
@[go_sem] theorem ta_71_70 (v:Value) (w:World):(Instr.typeAssert (.iface 71 v) 50 70 true).run Tryz.prog w=.ok (.tuple #[.string ⟨#[]⟩,.bool false]) w:=by kernel_rfl
@[go_sem] theorem ta_73_73 (v:Value) (w:World):(Instr.typeAssert (.iface 73 v) 50 73 true).run Tryz.prog w=.ok (.tuple #[v,.bool true]) w:=by kernel_rfl
@[go_sem] theorem ta_73_66 (v:Value) (w:World):(Instr.typeAssert (.iface 73 v) 50 66 true).run Tryz.prog w=.ok (.tuple #[.bool false,.bool false]) w:=by kernel_rfl
@[go_sem] theorem ta_73_67 (v:Value) (w:World):(Instr.typeAssert (.iface 73 v) 50 67 true).run Tryz.prog w=.ok (.tuple #[.int .i64 0,.bool false]) w:=by kernel_rfl
@[go_sem] theorem ta_73_68 (v:Value) (w:World):(Instr.typeAssert (.iface 73 v) 50 68 true).run Tryz.prog w=.ok (.tuple #[.float .f64 0,.bool false]) w:=by kernel_rfl
@[go_sem] theorem ta_73_69 (v:Value) (w:World):(Instr.typeAssert (.iface 73 v) 50 69 true).run Tryz.prog w=.ok (.tuple #[.string ⟨#[]⟩,.bool false]) w:=by kernel_rfl
@[go_sem] theorem ta_73_70 (v:Value) (w:World):(Instr.typeAssert (.iface 73 v) 50 70 true).run Tryz.prog w=.ok (.tuple #[.string ⟨#[]⟩,.bool false]) w:=by kernel_rfl
@[go_sem] theorem ta_73_71 (v:Value) (w:World):(Instr.typeAssert (.iface 73 v) 50 71 true).run Tryz.prog w=.ok (.tuple #[.string ⟨#[]⟩,.bool false]) w:=by kernel_rfl
@[go_sem] theorem ta_77_77 (v:Value) (w:World):(Instr.typeAssert (.iface 77 v) 50 77 true).run Tryz.prog w=.ok (.tuple #[v,.bool true]) w:=by kernel_rfl
@[go_sem] theorem ta_77_66 (v:Value) (w:World):(Instr.typeAssert (.iface 77 v) 50 66 true).run Tryz.prog w=.ok (.tuple #[.bool false,.bool false]) w:=by kernel_rfl
@[go_sem] theorem ta_77_67 (v:Value) (w:World):(Instr.typeAssert (.iface 77 v) 50 67 true).run Tryz.prog w=.ok (.tuple #[.int .i64 0,.bool false]) w:=by kernel_rfl
@[go_sem] theorem ta_77_68 (v:Value) (w:World):(Instr.typeAssert (.iface 77 v) 50 68 true).run Tryz.prog w=.ok (.tuple #[.float .f64 0,.bool false]) w:=by kernel_rfl
@[go_sem] theorem ta_77_69 (v:Value) (w:World):(Instr.typeAssert (.iface 77 v) 50 69 true).run Tryz.prog w=.ok (.tuple #[.string ⟨#[]⟩,.bool false]) w:=by kernel_rfl
@[go_sem] theorem ta_77_70 (v:Value) (w:World):(Instr.typeAssert (.iface 77 v) 50 70 true).run Tryz.prog w=.ok (.tuple #[.string ⟨#[]⟩,.bool false]) w:=by kernel_rfl
@[go_sem] theorem ta_77_71 (v:Value) (w:World):(Instr.typeAssert (.iface 77 v) 50 71 true).run Tryz.prog w=.ok (.tuple #[.string ⟨#[]⟩,.bool false]) w:=by kernel_rfl
@[go_sem] theorem ta_77_73 (v:Value) (w:World):(Instr.typeAssert (.iface 77 v) 50 73 true).run Tryz.prog w=.ok (.tuple #[.agg #[.int .i64 0,.int .i64 0],.bool false]) w:=by kernel_rfl
@[go_sem] theorem ta_81_81 (v:Value) (w:World):(Instr.typeAssert (.iface 81 v) 50 81 true).run Tryz.prog w=.ok (.tuple #[v,.bool true]) w:=by kernel_rfl
@[go_sem] theorem ta_81_66 (v:Value) (w:World):(Instr.typeAssert (.iface 81 v) 50 66 true).run Tryz.prog w=.ok (.tuple #[.bool false,.bool false]) w:=by kernel_rfl
@[go_sem] theorem ta_81_67 (v:Value) (w:World):(Instr.typeAssert (.iface 81 v) 50 67 true).run Tryz.prog w=.ok (.tuple #[.int .i64 0,.bool false]) w:=by kernel_rfl
@[go_sem] theorem ta_81_68 (v:Value) (w:World):(Instr.typeAssert (.iface 81 v) 50 68 true).run Tryz.prog w=.ok (.tuple #[.float .f64 0,.bool false]) w:=by kernel_rfl
@[go_sem] theorem ta_81_69 (v:Value) (w:World):(Instr.typeAssert (.iface 81 v) 50 69 true).run Tryz.prog w=.ok (.tuple #[.string ⟨#[]⟩,.bool false]) w:=by kernel_rfl
@[go_sem] theorem ta_81_70 (v:Value) (w:World):(Instr.typeAssert (.iface 81 v) 50 70 true).run Tryz.prog w=.ok (.tuple #[.string ⟨#[]⟩,.bool false]) w:=by kernel_rfl
@[go_sem] theorem ta_81_71 (v:Value) (w:World):(Instr.typeAssert (.iface 81 v) 50 71 true).run Tryz.prog w=.ok (.tuple #[.string ⟨#[]⟩,.bool false]) w:=by kernel_rfl
@[go_sem] theorem ta_81_73 (v:Value) (w:World):(Instr.typeAssert (.iface 81 v) 50 73 true).run Tryz.prog w=.ok (.tuple #[.agg #[.int .i64 0,.int .i64 0],.bool false]) w:=by kernel_rfl
@[go_sem] theorem ta_81_77 (v:Value) (w:World):(Instr.typeAssert (.iface 81 v) 50 77 true).run Tryz.prog w=.ok (.tuple #[.slice none 0 0,.bool false]) w:=by kernel_rfl
set_option maxRecDepth 100000 in
set_option maxHeartbeats 40000000 in
theorem tell_int (n:Int) (w:World):Calls Tryz.prog 55 #[.iface 67 (.int .i64 n)] w fun e w'=>TellPost w w' (.int n) e:=by
  go_enter Tryz.func55,Tryz.ntmps55
  go_wp2_with fail
  refine tell_ret (v0:=_) (v1:=_) (v2:=_) (v3:=_) (v4:=_) (v5:=_) (v6:=_) rfl rfl (heap_alloc_new w _) ?_
  exact TellPost.leaf rfl (fun _ _=>by simp only [IsO];exact ⟨by simp [tO],SlAt.nil _ _ _,SlAt.nil _ _ _⟩)
set_option maxRecDepth 100000 in
set_option maxHeartbeats 40000000 in
theorem tell_null (w:World):Calls Tryz.prog 55 #[.nilIface] w fun e w'=>TellPost w w' (.null) e:=by
  go_enter Tryz.func55,Tryz.ntmps55
  go_wp2_with fail
  refine tell_ret (v0:=_) (v1:=_) (v2:=_) (v3:=_) (v4:=_) (v5:=_) (v6:=_) rfl rfl (heap_alloc_new w _) ?_
  exact TellPost.leaf rfl (fun _ _=>by simp only [IsO];exact ⟨by simp [tO],SlAt.nil _ _ _,SlAt.nil _ _ _⟩)
set_option maxRecDepth 100000 in
set_option maxHeartbeats 40000000 in
theorem tell_btrue (w:World):Calls Tryz.prog 55 #[.iface 66 (.bool true)] w fun e w'=>TellPost w w' (.bool true) e:=by
  go_enter Tryz.func55,Tryz.ntmps55
  go_wp2_with fail
  refine tell_ret (v0:=_) (v1:=_) (v2:=_) (v3:=_) (v4:=_) (v5:=_) (v6:=_) rfl rfl (heap_alloc_new w _) ?_
  exact TellPost.leaf rfl (fun _ _=>by simp only [IsO];exact ⟨by simp [tO],SlAt.nil _ _ _,SlAt.nil _ _ _⟩)
set_option maxRecDepth 100000 in
set_option maxHeartbeats 40000000 in
theorem tell_bfalse (w:World):Calls Tryz.prog 55 #[.iface 66 (.bool false)] w fun e w'=>TellPost w w' (.bool false) e:=by
  go_enter Tryz.func55,Tryz.ntmps55
  go_wp2_with fail
  refine tell_ret (v0:=_) (v1:=_) (v2:=_) (v3:=_) (v4:=_) (v5:=_) (v6:=_) rfl rfl (heap_alloc_new w _) ?_
  exact TellPost.leaf rfl (fun _ _=>by simp only [IsO];exact ⟨by simp [tO],SlAt.nil _ _ _,SlAt.nil _ _ _⟩)
set_option maxRecDepth 100000 in
set_option maxHeartbeats 40000000 in
theorem tell_real (x:Nat) (w:World):Calls Tryz.prog 55 #[.iface 68 (.float .f64 x)] w fun e w'=>TellPost w w' (.real x) e:=by
  go_enter Tryz.func55,Tryz.ntmps55
  go_wp2_with fail
  refine tell_ret (v0:=_) (v1:=_) (v2:=_) (v3:=_) (v4:=_) (v5:=_) (v6:=_) rfl rfl (heap_alloc_new w _) ?_
  exact TellPost.leaf rfl (fun _ _=>by simp only [IsO];exact ⟨by simp [tO],SlAt.nil _ _ _,SlAt.nil _ _ _⟩)
set_option maxRecDepth 100000 in
set_option maxHeartbeats 40000000 in
theorem tell_lit (s:By) (hs:s.length≤250000) (w:World):Calls Tryz.prog 55 #[.iface 69 (.string (bs s))] w fun e w'=>TellPost w w' (.lit s) e:=by
  go_enter Tryz.func55,Tryz.ntmps55
  go_wp2_with fail
  refine tell_ret (v0:=_) (v1:=_) (v2:=_) (v3:=_) (v4:=_) (v5:=_) (v6:=_) rfl rfl (heap_alloc_new w _) ?_
  exact TellPost.leaf rfl (fun _ _=>by simp only [IsO];exact ⟨hs,SlAt.nil _ _ _,SlAt.nil _ _ _⟩)
set_option maxRecDepth 100000 in
set_option maxHeartbeats 40000000 in
theorem tell_hexl (s:By) (hs:s.length≤250000) (w:World):Calls Tryz.prog 55 #[.iface 70 (.string (bs s))] w fun e w'=>TellPost w w' (.hexl s) e:=by
  go_enter Tryz.func55,Tryz.ntmps55
  go_wp2_with fail
  refine tell_ret (v0:=_) (v1:=_) (v2:=_) (v3:=_) (v4:=_) (v5:=_) (v6:=_) rfl rfl (heap_alloc_new w _) ?_
  exact TellPost.leaf rfl (fun _ _=>by simp only [IsO];exact ⟨hs,SlAt.nil _ _ _,SlAt.nil _ _ _⟩)
set_option maxRecDepth 100000 in
set_option maxHeartbeats 40000000 in
theorem tell_name (s:By) (hs:s.length≤250000) (w:World):Calls Tryz.prog 55 #[.iface 71 (.string (bs s))] w fun e w'=>TellPost w w' (.name s) e:=by
  go_enter Tryz.func55,Tryz.ntmps55
  go_wp2_with fail
  refine tell_ret (v0:=_) (v1:=_) (v2:=_) (v3:=_) (v4:=_) (v5:=_) (v6:=_) rfl rfl (heap_alloc_new w _) ?_
  exact TellPost.leaf rfl (fun _ _=>by simp only [IsO];exact ⟨hs,SlAt.nil _ _ _,SlAt.nil _ _ _⟩)
end Go.Proofs.YtfkecmlmnhbmoaaGreatDoor
namespace Go.Proofs.YtfkecmlmnhbmoaaGreatDoor
open Go Go.RowKit
open Go.Maps
set_option maxRecDepth 100000 in
set_option maxHeartbeats 40000000 in
theorem tell_ref (n g:Int) (w:World):Calls Tryz.prog 55 #[.iface 73 (.agg #[.int .i64 n,.int .i64 g])] w fun e w'=>TellPost w w' (.ref n g) e:=by
  go_enter Tryz.func55,Tryz.ntmps55
  go_wp2_with fail
  have ha:=alloc2 w w.heap.size rfl (Obj.cells #[.int .i64 9,.int .i64 n,.int .i64 g,.float .f64 0,.string ⟨#[]⟩,.slice none 0 0,.slice none 0 0] 26) (Obj.cells #[.int .i64 n,.int .i64 g] 73)
  refine tell_ret (v0:=_) (v1:=_) (v2:=_) (v3:=_) (v4:=_) (v5:=_) (v6:=_) rfl rfl ha.1 ?_
  exact ⟨nilS,nilS,fun _=>False,rfl,by simp only [IsO];exact ⟨by simp [tO],SlAt.nil _ _ _,SlAt.nil _ _ _⟩,fun k hk=>hk.elim,gr_alloc (gr_alloc (World.grownBy.refl w none) _) _⟩
theorem Tryz.info26:(Tryz.prog.info? 26).map (fun i=>(i.zero,i.size,i.bytes))=some (some (.agg #[.int .i64 0,.int .i64 0,.int .i64 0,.float .f64 0,.string ⟨#[]⟩,.slice none 0 0,.slice none 0 0]),7,96):=by kernel_rfl
def TellC (nn:Nat→Prop) (n:Nat):Prop:=∀ (p:PO) (x:PV) (S:Nat→Prop) (w:World) (v:Value),Corr nn n p x→ObjO S w p v→(∀ k,S k→k < w.heap.size)→Calls Tryz.prog 55 #[v] w fun e w'=>TellPost w w' (sortP p) e
structure TlJ (w wr:World) (i:Nat) (ps:List PO) (sl:Value) (cells:List Value) (S:Nat→Prop):Prop where
  row:wr.ownsRow w.heap.size 26 7 sl i cells
  objs:IsOs S wr ((sortPs ps).take i) cells
  bnd:∀ k,S k→w.heap.size≤k∧k < wr.heap.size∧sl.ownBlock≠some k
  grow:w.grownBy wr none
set_option maxRecDepth 100000 in
set_option maxHeartbeats 40000000 in
theorem tells_any (nn:Nat→Prop) (n:Nat) (hT:TellC nn n) (ps:List PO) (xs:List PV) (S:Nat→Prop) (w:World) (sl:Value) (cells:List Value) (hC:Corr nn (n + 1) (.arr ps) (.arr xs)) (hl:ps.length≤1000000) (hsl:SlAt S w sl 1 ps.length cells) (hO:ObjOs S w ps cells) (hS:∀ k,S k→k < w.heap.size) :
    Calls Tryz.prog 65 #[sl] w fun e w'=>∃ vs cs S',e=.returned (.tuple #[vs,.bool true])∧SlAt S' w' vs 7 ps.length cs∧IsOs S' w' (sortPs ps) cs∧(∀ k,S' k→w.heap.size≤k∧k < w'.heap.size)∧w.grownBy w' none:=by
  obtain ⟨hcl,o,cap,rfl,h1,h2,h3⟩:=hsl
  obtain ⟨ti,hti,htz0,htz1,htz2⟩:=info_parts Tryz.info26
  have HO:=Lib.hid hO
  have HC:=Lib.hid hC
  have HT:=Lib.hid hT
  have H3:=Lib.hid h3
  have Hcl:=Lib.hid hcl
  have HS:=Lib.hid hS
  clear hO hC hT h3 hcl hS
  obtain ⟨N,hN⟩:∃ N,N=ps.length:=⟨_,rfl⟩
  rw [←hN] at hl h1 Hcl ⊢
  have HN:=Lib.hid hN
  clear hN
  go_enter Tryz.func65,Tryz.ntmps65
  go_wp2_with fail
  go_loopg [4,11] N (fun g t4 t11 wr=>∃ i so sn sc cells2 S2,t11=.int .i64 (i:Nat)∧g=N - i∧i≤N∧t4=.slice so sn sc∧TlJ w wr i ps (.slice so sn sc) cells2 S2)
  case atStart =>
    exact ⟨0,none,0,0,[],fun _=>False,rfl,rfl,Nat.zero_le _,rfl,World.ownsRow_nil _ _ _ _,by simp [IsOs],fun k hk=>hk.elim,World.grownBy.refl _ _⟩
  case round =>
    obtain ⟨i,so,sn,sc,cells2,S2,rfl,hg,hi,rfl,hJ⟩:=hrel
    have HJ:=Lib.hid hJ
    have Hg:=Lib.hid hg
    clear hJ hg
    by_cases hiN:i < N
    · rcases H3.out with h0 | ⟨b0,i0,rfl,hSb,hcells⟩
      · have:=HN.out;omega
      obtain ⟨pi,hpi⟩:∃ p,ps[i]?=some p:=⟨_,List.getElem?_eq_getElem (by rw [←HN.out];exact hiN)⟩
      obtain ⟨vi,hvi,hOi⟩:=ObjOs.get ps cells HO.out i pi hpi
      obtain ⟨xi,hxi,hCi⟩:∃ x,xs[i]?=some x∧Corr nn n pi x:=by
        have h:=HC.out
        simp only [Corr] at h
        have hlt:i < xs.length:=by have:=h.1;have:=HN.out;omega
        exact ⟨_,List.getElem?_eq_getElem hlt,h.2 i pi _ hpi (List.getElem?_eq_getElem hlt)⟩
      have hcell:wr.cell? ⟨b0,i0 + i,none⟩=some vi:=(World.cell?_of_block (HJ.out.grow.block b0 (HS.out b0 hSb) (by simp))).trans (hcells i vi hvi)
      have hcall:=HT.out pi xi S wr vi hCi (ObjO.keep (S':=S) (fun k hk=>⟨hk,HJ.out.grow.block k (HS.out k hk) (by simp)⟩) _ _ hOi) (fun k hk=>Nat.lt_of_lt_of_le (HS.out k hk) HJ.out.grow.size)
      have Hpi:=Lib.hid hpi
      have hnm:(i:Int) < N:=by omega
      have hvs:=hOi.nil_or
      clear hOi hCi hvi hpi hxi hcells
      have hvc:vi.cells.size=1:=by rcases hvs with ⟨_,rfl⟩ | ⟨_,t,u,rfl⟩<;>rfl
      clear hvs
      go_wp2_with fail
      refine hcall.mono ?_
      rintro e w2 ⟨ks2,vs2,S3,rfl,hI3,hS3,hg2⟩
      obtain ⟨⟨ko,kn,kc,rfl⟩,⟨vo,vn,vc,rfl⟩⟩:=IsO.slices hI3
      have hrow2:=row_keptB HJ.out.row hg2 (fun k hk=>by simp)
      have Hrow2:=Lib.hid hrow2
      have HI3:=Lib.hid hI3
      have HS3:=Lib.hid hS3
      have Hg2:=Lib.hid hg2
      have Hw2:=Lib.hid (show w.heap.size≤w2.heap.size from Nat.le_trans HJ.out.grow.size hg2.size)
      clear hrow2 hI3 hS3 hg2 hcall hcell hvc
      unfold objV
      obtain ⟨q,hq⟩:∃ q,q=sortP pi:=⟨_,rfl⟩
      rw [←hq] at HI3 ⊢
      have Hq:=Lib.hid hq
      clear hq
      go_wp2_with (first | (at_builtin;refine wpList_append_own_at _ rfl _ _ 24 rfl w.heap.size 26 ti _ 7 96 Tryz.underlying24 hti htz0 htz1 htz2 rfl (by decide) _ _ _ rfl (World.ownsRow.alloc (World.ownsRow.alloc Hrow2.out _) _) ⟨w2.heap.size + 1,0,none⟩ 1 1 (o7 q (.slice ko kn kc) (.slice vo vn vc)) (by rfl) (by rfl) (World.news_of_block (alloc2 w2 w2.heap.size rfl _ _).2) (by simp [Value.oneCell',o7]) (by unfold maxLen;omega) (by omega) (by have:=Hw2.out;simp;omega) ?_))
      intro v7 w7 ho7 hg7 _ hat7
      have hshape:∃ gg cap,v7=.slice (some ⟨gg,0,none⟩) (i + 1) cap:=by
        rcases ho7.2 with ⟨_,h0⟩ | ⟨gg,cap,cur,h,_⟩
        · exact absurd h0 (by omega)
        · exact ⟨gg,cap,h⟩
      obtain ⟨gg,cap7,rfl⟩:=hshape
      have hwi:IntKind.i64.wrap ((i:Int) + 1)=(i:Int) + 1:=IntWalk.i64_in _ (by omega)
      have Hg7:=Lib.hid (gr_alloc_then (gr_alloc_then hg7))
      have Ho7:=Lib.hid ho7
      have Hat7:=Lib.hid (show (Value.slice so sn sc).ownBlock=some gg∨w2.heap.size≤gg from by
        rcases hat7 with h | h
        · left;rw [←h];rfl
        · right;simp [Value.ownBlock] at h;omega)
      clear hg7 ho7 hat7
      go_wp2_with fail
      go_roundg (N - (i + 1))
      case measure=>rw [Hg.out];omega
      case rel =>
        have hJ:=HJ.out
        have hrl:=World.ownsRow.lt hJ.row
        have hs2:=Hg2.out.size
        have hs7:=Hg7.out.size
        refine ⟨i + 1,_,_,_,_,fun k=>S2 k∨S3 k,by simp,rfl,by omega,rfl,Ho7.out,?_,?_,?_⟩
        · have htk:(sortPs ps).take (i + 1)=(sortPs ps).take i ++ [q]:=by
            rw [sortPs_map,Hq.out,List.take_add_one,List.getElem?_map,Hpi.out]
            rfl
          rw [htk]
          refine IsOs.append (IsOs.one (IsO.keep (fun k hk=>⟨.inr hk,?_⟩) _ _ _ HI3.out)) _ _ (IsOs.keep (fun k hk=>⟨.inl hk,?_⟩) _ _ hJ.objs)
          · have:=HS3.out k hk
            exact Hg7.out.block k this.2 (fun e=>by have:=hrl k e.symm;omega)
          · have:=hJ.bnd k hk
            exact (Hg7.out.block k (by omega) (fun e=>this.2.2 e.symm)).trans (Hg2.out.block k this.2.1 (by simp))
        · intro k hk
          have hw:=hJ.grow.size
          rcases hk with hk | hk
          · have h1:=hJ.bnd k hk
            refine ⟨h1.1,by omega,fun e=>?_⟩
            have e:gg=k:=by simpa [Value.ownBlock] using e
            rcases Hat7.out with h | h
            · exact h1.2.2 (h.trans (by rw [e]))
            · omega
          · have h1:=HS3.out k hk
            refine ⟨by omega,by omega,fun e=>?_⟩
            have e:gg=k:=by simpa [Value.ownBlock] using e
            rcases Hat7.out with h | h
            · have:=hrl gg h;omega
            · omega
        · exact gr_noneThen (hJ.grow.trans Hg2.out) Hg7.out (fun j hj=>(hrl j hj).1)
    · obtain rfl:i=N:=by omega
      go_wp2_with fail
      go_ret2
      have hJ:=HJ.out
      have hrow:=World.ownsRow.lt hJ.row
      refine ⟨.slice so sn sc,cells2,fun k=>S2 k∨(Value.slice so sn sc).ownBlock=some k,rfl,(SlAt.of_row hJ.row (fun k=>(Value.slice so sn sc).ownBlock=some k) (fun k hk=>hk)).keep (fun k hk=>⟨.inr hk,rfl⟩),?_,fun k hk=>?_,hJ.grow⟩
      · have h:=IsOs.keep (S':=fun k=>S2 k∨(Value.slice so sn sc).ownBlock=some k) (fun k hk=>⟨.inl hk,rfl⟩) _ _ hJ.objs
        rwa [List.take_of_length_le (by rw [sortPs_map];simp;have:=HN.out;omega)] at h
      · rcases hk with hk | hk
        · have:=hJ.bnd k hk;omega
        · have:=hrow k hk;omega
end Go.Proofs.YtfkecmlmnhbmoaaGreatDoor
namespace Go.Proofs.YtfkecmlmnhbmoaaGreatDoor
open Go Go.RowKit
open Go.Maps Go.Sort
theorem look_at {α:Type} (d:α):∀ (ks:List By) (ps:List α) (i:Nat) (k:By) (p:α),ks.Nodup→ks[i]?=some k→ps[i]?=some p→look d ks ps k=p:=by
  intro ks
  induction ks with
  | nil=>intro ps i k p _ h;simp at h
  | cons q ks ih =>
    intro ps i k p hn hk hp
    cases ps with
    | nil=>simp at hp
    | cons r ps =>
      obtain ⟨h1,h2⟩:=List.nodup_cons.1 hn
      cases i with
      | zero=>simp at hk hp;subst hk;subst hp;simp [look]
      | succ i =>
        have hk':ks[i]?=some k:=by simpa using hk
        have hqk:q≠k:=by rintro rfl;exact h1 (List.mem_of_getElem? hk')
        simp only [look,if_neg hqk]
        exact ih ps i k p h2 hk' (by simpa using hp)
structure TdJ (w wr:World) (i:Nat) (qs:List PO) (sl:Value) (cells:List Value) (S:Nat→Prop):Prop where
  row:wr.ownsRow w.heap.size 26 7 sl i cells
  objs:IsOs S wr (qs.take i) cells
  bnd:∀ k,S k→w.heap.size≤k∧k < wr.heap.size∧sl.ownBlock≠some k
  grow:w.grownBy wr none
theorem sort_row {w:World} {base:Nat} {so:Option Addr} {sn sc:Nat} {ss:List By} (hrow:w.ownsRow base 9 1 (.slice so sn sc) ss.length (ss.map encStr)) (hl:ss.length≤1000000) :
    Calls Tryz.prog 78 #[.slice so sn sc] w fun e w'=>e=.returned (.tuple #[])∧w.grownBy w' (Value.slice so sn sc).ownBlock∧w'.ownsRow base 9 1 (.slice so sn sc) ss.length ((ss.mergeSort leBy).map encStr):=by
  rcases hrow.2 with ⟨hnil,h0⟩ | ⟨g,cap,cur,he,hbase,hb,h1,h2,h3,h4⟩
  · injection hnil with e1 e2 e3
    subst e1;subst e2;subst e3
    obtain rfl:ss=[]:=List.eq_nil_of_length_eq_zero h0
    refine (Tryz.sort_Strings_none none 0 w).mono ?_
    rintro e w' ⟨rfl,rfl⟩
    exact ⟨rfl,World.grownBy.refl _ _,by simpa using hrow⟩
  · injection he with e1 e2 e3
    subst e1;subst e2;subst e3
    have hH:Holds encStr w g 0 ss.toArray:=holds_of_block hb (by simpa using h4)
    refine (Tryz.sort_Strings g 0 sc ss w hH (Array.getElem?_eq_some_iff.1 hb).1 (by omega)).mono ?_
    rintro e w' ⟨rfl,nn,os,rfl⟩
    exact ⟨rfl,grownBy_sorted _,ownsRow_sorted (by simp) hbase hb h1 h2 h3⟩
def TdPost (w w':World) (pk:List By) (ps:List PO) (e:Ending):Prop:=∃ kv vs cs S',e=.returned (.tuple #[kv,vs,.bool true])∧SlAt S' w' kv 1 pk.length (kvals (pk.mergeSort leBy))∧SlAt S' w' vs 7 pk.length cs∧IsOs S' w' ((pk.mergeSort leBy).map (look .null pk (sortPs ps))) cs∧(∀ k,S' k→w.heap.size≤k∧k < w'.heap.size)∧w.grownBy w' none
set_option maxRecDepth 100000 in
set_option maxHeartbeats 40000000 in
theorem tdict_any (nn:Nat→Prop) (n:Nat) (hT:TellC nn n) (pk:List By) (ps:List PO) (ks:List By) (xs:List PV) (S:Nat→Prop) (w:World) (db:Nat) (vals:List Value) (hC:Corr nn (n + 1) (.dict pk ps) (.dict ks xs)) (hK:KeysOk pk) (hD:DictAt w db pk vals) (hO:ObjOs S w ps vals) (hS:∀ k,S k→k < w.heap.size) :
    Calls Tryz.prog 66 #[.map (some db)] w fun e w'=>TdPost w w' pk ps e:=by
  obtain ⟨hkl,hnd,D,hown,hhas,hat⟩:=hD
  have hdb:=hown.lt
  obtain ⟨ti,hti,htz0,htz1,htz2⟩:=info_parts Tryz.info9
  have hN:pk.length≤1000000:=hK.1
  obtain ⟨N,hNN⟩:∃ N,N=pk.length:=⟨_,rfl⟩
  rw [←hNN] at hown hN
  have HO:=Lib.hid hO
  have HC:=Lib.hid hC
  have HT:=Lib.hid hT
  have HS:=Lib.hid hS
  have HK:=Lib.hid hK
  have Hkl:=Lib.hid hkl
  have Hnd:=Lib.hid hnd
  have Hhas:=Lib.hid hhas
  have Hat:=Lib.hid hat
  have HNN:=Lib.hid hNN
  have hsz:=hown.size_le
  have Hown:=Lib.hid hown
  clear hO hC hT hS hK hkl hnd hhas hat hNN
  go_enter Tryz.func66,Tryz.ntmps66
  go_wp2_with (first
    | (at_range;refine wpList_range_own _ rfl _ 81 rfl 9 50 keyed9 Tryz.underlying81 RV db N D rfl hown ?_))
  intro w1 hrg1 hg1 hs1
  have Hg1:=Lib.hid hg1
  have Hs1:=Lib.hid hs1
  clear hown hg1 hs1
  go_wp2_with fail
  go_loopg [2] (Maps.size D) (fun g t2 wr=>∃ left ss so sn sc,t2=.slice so sn sc∧wr.ranges Tryz.prog 9 RV db w.heap.size N D left g∧Collected D left ss∧ss.length + g≤N∧wr.ownsRow (w.heap.size + 1) 9 1 (.slice so sn sc) ss.length (ss.map encStr)∧w.grownBy wr none)
  case atStart =>
    exact ⟨_,[],none,0,0,rfl,hrg1,Collected.start D,by simpa using hsz,World.ownsRow_nil _ _ _ _,Hg1.out⟩
  case round =>
    clear hrg1
    obtain ⟨left,ss,so,sn,sc,rfl,hrg,hCo,hlen,hrow,hG⟩:=hrel
    have HCo:=Lib.hid hCo
    have Hlen:=Lib.hid hlen
    have Hrow:=Lib.hid hrow
    have HG:=Lib.hid hG
    clear hCo hlen hrow hG
    go_wp2_with (first
      | (at_next;refine wpList_next_ranges _ rfl _ rfl 9 keyed9 RV encStr (fun v:Value=>v) (fun key kl hk=>by obtain ⟨x,hx,_⟩:=Maps.keyOf_str Tryz.underlying9 hk;exact ⟨x,hx⟩) (fun v y hv=>⟨v,rfl⟩) db w.heap.size N _ _ _ rfl hrg ?_ ?_))
    · intro hc0 hl0
      have hperm:ss.Perm pk:=by
        refine (List.perm_ext_iff_of_nodup HCo.out.1 Hnd.out).2 fun x=>?_
        rw [HCo.out.2 x,Hhas.out,hl0]
        simp
      have hss:ss.length=N:=by rw [HNN.out];exact hperm.length_eq
      have hms:ss.mergeSort leBy=pk.mergeSort leBy:=mergeSort_of_perm hperm
      have hsort:=sort_row Hrow.out (by omega)
      rw [hms,hss] at hsort
      have Hdbo:=Lib.hid (show ∀ k,(Value.slice so sn sc).ownBlock=some k→w.heap.size + 1≤k∧k < wr.heap.size from World.ownsRow.lt Hrow.out)
      clear hperm hss hms hl0 hrg
      go_wp2_with fail
      refine hsort.mono ?_
      rintro e w2 ⟨rfl,hg2,hrow2⟩
      have hsn:sn=N:=by
        rcases hrow2.2 with ⟨hnil,h0⟩ | ⟨g,cap,cur,he,_⟩
        · injection hnil with e1 e2 e3;omega
        · injection he with e1 e2 e3
      subst hsn
      have hG2:w.grownBy w2 none:=gr_noneThen HG.out hg2 (fun k hk=>by have:=Hdbo.out k hk;omega)
      have HG2:=Lib.hid hG2
      have Hown2:=Lib.hid (Hown.out.kept hG2 (by simp))
      have Hrow2:=Lib.hid hrow2
      obtain ⟨T,hTd⟩:∃ T,T=pk.mergeSort leBy:=⟨_,rfl⟩
      rw [←hTd] at Hrow2
      have hTl:T.length=sn:=by rw [hTd,List.length_mergeSort,←HNN.out]
      have HTd:=Lib.hid hTd
      have HTl:=Lib.hid hTl
      have hrow2lt:=World.ownsRow.lt Hrow2.out
      have Hr2lt:=Lib.hid hrow2lt
      obtain ⟨ti2,hti',htz0',htz1',htz2'⟩:=info_parts Tryz.info26
      clear hsort hg2 hrow2 hG2 hTd hTl hrow2lt
      go_wp2_with fail
      go_loopg [2,3,24] sn (fun g t2 t3 t24 wq=>∃ i po pn pc cells2 S2,t2=.slice so sn sc∧t24=.int .i64 (i:Nat)∧g=sn - i∧i≤sn∧t3=.slice po pn pc∧TdJ w2 wq i (T.map (look .null pk (sortPs ps))) (.slice po pn pc) cells2 S2)
      case atStart =>
        exact ⟨0,none,0,0,[],fun _=>False,rfl,rfl,rfl,Nat.zero_le _,rfl,World.ownsRow_nil _ _ _ _,by simp [IsOs],fun k hk=>hk.elim,World.grownBy.refl _ _⟩
      case round =>
        obtain ⟨i,po,pn,pc,cells2,S2,rfl,rfl,hg,hi,rfl,hJ⟩:=hrel
        have HJ:=Lib.hid hJ
        have Hg:=Lib.hid hg
        clear hJ hg
        by_cases hiN:i < sn
        · have hso:∃ g0,so=some ⟨g0,0,none⟩:=by
            rcases Hrow2.out.2 with ⟨hnil,h0⟩ | ⟨g,cap,cur,he,_⟩
            · omega
            · injection he with e1 _ _;exact ⟨g,e1⟩
          obtain ⟨g0,rfl⟩:=hso
          obtain ⟨k,hk⟩:∃ k,T[i]?=some k:=⟨_,List.getElem?_eq_getElem (by rw [HTl.out];exact hiN)⟩
          have hkm:k∈pk:=by
            have:=List.mem_of_getElem? hk
            rw [HTd.out] at this
            exact mem_sort.1 this
          obtain ⟨i',hi'⟩:=List.mem_iff_getElem?.1 hkm
          have hi'lt:=(List.getElem?_eq_some_iff.1 hi').1
          have hcor:=HC.out
          simp only [Corr] at hcor
          obtain ⟨p,hp⟩:∃ p,ps[i']?=some p:=⟨_,List.getElem?_eq_getElem (by rw [←hcor.2.2.1];exact hi'lt)⟩
          obtain ⟨v,hv,hOv⟩:=ObjOs.get ps vals HO.out i' p hp
          obtain ⟨x,_,_,hCx⟩:=hcor.2.2.2.2 i' k p hi' hp
          have hqi:(T.map (look .null pk (sortPs ps)))[i]?=some (sortP p):=by
            rw [List.getElem?_map,hk]
            show some _=_
            rw [look_at PO.null pk (sortPs ps) i' k (sortP p) Hnd.out hi' (by rw [sortPs_map,List.getElem?_map,hp];rfl)]
          have hGw:=HG2.out.trans HJ.out.grow
          have hownr:=Hown2.out.kept HJ.out.grow (by simp)
          have hkl:=HK.out.2 k hkm
          obtain ⟨v',ps',hlk,hRv⟩:=hownr.lookup keyed9 Tryz.underlying81 (zero50 wr) (zd:=.held .nilIface) (zp:=[]) rfl (key9 k (by unfold maxLen;omega))
          have hvv:v'=v:=by
            rw [Hat.out i' k v hi' hv] at hRv
            have h1:DataW.held v'=DataW.held v:=congrArg Prod.fst (Option.some.inj hRv)
            injection h1
          subst hvv
          have hcell:wr.cell? ⟨g0,i,none⟩=some (.string (bs k)):=by
            have hrk:=World.ownsRow.kept Hrow2.out HJ.out.grow (.inr (by simp [Value.ownBlock]))
            have:=World.ownsRow.cells hrk (g:=g0) rfl i (encStr k) (by rw [List.getElem?_map,hk];rfl)
            have e:(⟨g0,0,none⟩:Addr).add i=⟨g0,i,none⟩:=by unfold Addr.add;split<;>simp_all
            rw [e] at this
            exact this
          have hcall:=HT.out p x S wr v' hCx (ObjO.keep (S':=S) (fun k hk=>⟨hk,hGw.block k (HS.out k hk) (by simp)⟩) _ _ hOv) (fun k hk=>Nat.lt_of_lt_of_le (HS.out k hk) hGw.size)
          have Hqi:=Lib.hid hqi
          have hnm:(i:Int) < sn:=by omega
          clear hk hkm hi' hi'lt hcor hp hv hOv hCx hqi hGw hownr hkl hRv
          go_wp2_with fail
          refine hcall.mono ?_
          rintro e w3 ⟨ks2,vs2,S3,rfl,hI3,hS3,hg3⟩
          obtain ⟨⟨ko,kn,kc,rfl⟩,⟨vo,vn,vc,rfl⟩⟩:=IsO.slices hI3
          have hrow3:=row_keptB HJ.out.row hg3 (fun k hk=>by simp)
          have Hrow3:=Lib.hid hrow3
          have HI3:=Lib.hid hI3
          have HS3:=Lib.hid hS3
          have Hg3:=Lib.hid hg3
          have Hw3:=Lib.hid (show w2.heap.size≤w3.heap.size from Nat.le_trans HJ.out.grow.size hg3.size)
          unfold objV
          obtain ⟨q,hq⟩:∃ q,q=sortP p:=⟨_,rfl⟩
          rw [←hq] at HI3 Hqi ⊢
          clear hrow3 hI3 hS3 hg3 hcall hcell hlk hq
          go_wp2_with (first | (at_builtin;refine wpList_append_own_at _ rfl _ _ 24 rfl w2.heap.size 26 ti2 _ 7 96 Tryz.underlying24 hti' htz0' htz1' htz2' rfl (by decide) _ _ _ rfl (World.ownsRow.alloc (World.ownsRow.alloc Hrow3.out _) _) ⟨w3.heap.size + 1,0,none⟩ 1 1 (o7 q (.slice ko kn kc) (.slice vo vn vc)) (by rfl) (by rfl) (World.news_of_block (alloc2 w3 w3.heap.size rfl _ _).2) (by simp [Value.oneCell',o7]) (by unfold maxLen;omega) (by omega) (by have:=Hw3.out;simp;omega) ?_))
          intro v7 w7 ho7 hg7 _ hat7
          have hshape:∃ gg cap,v7=.slice (some ⟨gg,0,none⟩) (i + 1) cap:=by
            rcases ho7.2 with ⟨_,h0⟩ | ⟨gg,cap,cur,h,_⟩
            · exact absurd h0 (by omega)
            · exact ⟨gg,cap,h⟩
          obtain ⟨gg,cap7,rfl⟩:=hshape
          have hwi:IntKind.i64.wrap ((i:Int) + 1)=(i:Int) + 1:=IntWalk.i64_in _ (by omega)
          have Hg7:=Lib.hid (gr_alloc_then (gr_alloc_then hg7))
          have Ho7:=Lib.hid ho7
          have Hat7:=Lib.hid (show (Value.slice po pn pc).ownBlock=some gg∨w3.heap.size≤gg from by
            rcases hat7 with h | h
            · left;rw [←h];rfl
            · right;simp [Value.ownBlock] at h;omega)
          clear hg7 ho7 hat7
          go_wp2_with fail
          go_roundg (sn - (i + 1))
          case measure=>rw [Hg.out];omega
          case rel =>
            have hJ:=HJ.out
            have hrl:=World.ownsRow.lt hJ.row
            have hs2:=Hg3.out.size
            have hs7:=Hg7.out.size
            refine ⟨i + 1,_,_,_,_,fun k=>S2 k∨S3 k,rfl,by simp,rfl,by omega,rfl,Ho7.out,?_,?_,?_⟩
            · have htk:(T.map (look .null pk (sortPs ps))).take (i + 1)=(T.map (look .null pk (sortPs ps))).take i ++ [q]:=by
                rw [List.take_add_one,Hqi.out]
                rfl
              rw [htk]
              refine IsOs.append (IsOs.one (IsO.keep (fun k hk=>⟨.inr hk,?_⟩) _ _ _ HI3.out)) _ _ (IsOs.keep (fun k hk=>⟨.inl hk,?_⟩) _ _ hJ.objs)
              · have:=HS3.out k hk
                exact Hg7.out.block k this.2 (fun e=>by have:=hrl k e.symm;omega)
              · have:=hJ.bnd k hk
                exact (Hg7.out.block k (by omega) (fun e=>this.2.2 e.symm)).trans (Hg3.out.block k this.2.1 (by simp))
            · intro k hk
              have hw:=hJ.grow.size
              rcases hk with hk | hk
              · have h1:=hJ.bnd k hk
                refine ⟨h1.1,by omega,fun e=>?_⟩
                have e:gg=k:=by simpa [Value.ownBlock] using e
                rcases Hat7.out with h | h
                · exact h1.2.2 (h.trans (by rw [e]))
                · omega
              · have h1:=HS3.out k hk
                refine ⟨by omega,by omega,fun e=>?_⟩
                have e:gg=k:=by simpa [Value.ownBlock] using e
                rcases Hat7.out with h | h
                · have:=hrl gg h;omega
                · omega
            · exact gr_noneThen (hJ.grow.trans Hg3.out) Hg7.out (fun j hj=>(hrl j hj).1)
        · obtain rfl:i=sn:=by omega
          have y30:∀ (a b c:Value),([a,b,c]:List Value)[0]?=some a:=fun _ _ _=>rfl
          have y31:∀ (a b c:Value),([a,b,c]:List Value)[1]?=some b:=fun _ _ _=>rfl
          have y32:∀ (a b c:Value),([a,b,c]:List Value)[2]?=some c:=fun _ _ _=>rfl
          go_wp2_with fail
          refine bodyPost_ret (v:=.tuple #[.slice so i sc,.slice po pn pc,.bool true]) (by simp [results,Tryz.results66,go_sem]<;>rfl) rfl ?_
          have hJ:=HJ.out
          have hrow:=World.ownsRow.lt hJ.row
          have hrk:=row_keptB Hrow2.out hJ.grow (fun k hk=>by simp)
          have hs:=hJ.grow.size
          have hs2:=HG2.out.size
          refine ⟨.slice so i sc,.slice po pn pc,cells2,fun k=>S2 k∨(Value.slice po pn pc).ownBlock=some k∨(Value.slice so i sc).ownBlock=some k,rfl,?_,?_,?_,?_,HG2.out.trans hJ.grow⟩
          · rw [←HNN.out,←HTd.out]
            exact (SlAt.of_row hrk (fun k=>(Value.slice so i sc).ownBlock=some k) (fun k hk=>hk)).keep (fun k hk=>⟨.inr (.inr hk),rfl⟩)
          · rw [←HNN.out]
            exact (SlAt.of_row hJ.row (fun k=>(Value.slice po pn pc).ownBlock=some k) (fun k hk=>hk)).keep (fun k hk=>⟨.inr (.inl hk),rfl⟩)
          · have h:=IsOs.keep (S':=fun k=>S2 k∨(Value.slice po pn pc).ownBlock=some k∨(Value.slice so i sc).ownBlock=some k) (fun k hk=>⟨.inl hk,rfl⟩) _ _ hJ.objs
            rwa [List.take_of_length_le (by simp;have:=HTl.out;omega),HTd.out] at h
          · intro k hk
            rcases hk with hk | hk | hk
            · have:=hJ.bnd k hk;omega
            · have:=hrow k hk;omega
            · have:=Hr2lt.out k hk;omega
    · intro x c kl yd yp w2 cnt2 hkey hlk hv hat hrg2 hlt hg2 hs2 hen
      obtain ⟨x',ex,rfl,hxl⟩:=Maps.keyOf_str Tryz.underlying9 hkey
      obtain rfl:x=x':=encStr_inj ex
      have hrow2:=World.ownsRow.kept Hrow.out hg2 (Or.inr (row_ne_iter Hrow.out hrg).symm)
      have HC2:=Lib.hid (Collected.step HCo.out hlk hat)
      have Hg2:=Lib.hid hg2
      have Hrg:=Lib.hid hrg
      have Hrg2:=Lib.hid hrg2
      have Hlt:=Lib.hid hlt
      have Hrow2:=Lib.hid hrow2
      have Hw2:=Lib.hid (show w.heap.size + 1≤w2.heap.size by have:=HG.out.size;have:=hg2.size;have:=hrg.lt;omega)
      clear hs2 hkey hlk hv hat hlt hg2 hrow2 ex hxl hrg hrg2
      have hen':(Instr.entry (.pointer (some ⟨w.heap.size,0,none⟩))).run Tryz.prog w2=.ok (.tuple #[.string ⟨x.toArray⟩,c]) w2:=hen
      clear hen
      go_wp2_with (first
        | (at_builtin;refine wpList_append_own_at _ rfl _ _ 23 rfl (w.heap.size + 1) 9 ti (.string ⟨#[]⟩) 1 16 Tryz.underlying23 hti htz0 htz1 htz2 rfl (by decide) _ _ _ rfl (World.ownsRow.alloc Hrow2.out _) ⟨w2.heap.size,0,none⟩ 1 1 [.string ⟨x.toArray⟩] rfl rfl (cell_one_new _ _ _) (by simp [Value.oneCell']) (by have:=Hlen.out;unfold maxLen;omega) (by have:=Hlen.out;omega) (by have:=Hw2.out;simp;omega) ?_))
      intro v7 w7 ho7 hg7 _ hat7
      have hshape:∃ gg cap,v7=.slice (some ⟨gg,0,none⟩) (ss.length + 1) cap:=by
        rcases ho7.2 with ⟨_,h0⟩ | ⟨gg,cap,cur,h,_⟩
        · exact absurd h0 (by omega)
        · exact ⟨gg,cap,h⟩
      obtain ⟨gg,cap7,rfl⟩:=hshape
      have hrg7:=(Hrg2.out.alloc _).kept hg7 (row_ne_low Hrow2.out (by omega)) (row_ne_iter Hrow2.out Hrg2.out)
      have Hrg7:=Lib.hid hrg7
      have Hg7:=Lib.hid (gr_alloc_then hg7)
      have Ho7:=Lib.hid ho7
      clear hrg7 hg7 ho7 hat7 hen'
      go_wp2_with fail
      go_roundg cnt2
      case measure=>exact Hlt.out
      case rel =>
        refine ⟨_,ss ++ [x],some ⟨gg,0,none⟩,ss.length + 1,cap7,rfl,Hrg7.out,HC2.out,?_,?_,?_⟩
        · have:=Hlen.out;have:=Hlt.out;simp;omega
        · have h:=Ho7.out
          simpa [encStr] using h
        · refine gr_noneThen (gr_noneThen HG.out Hg2.out (fun k hk=>by injection hk with hk;omega)) Hg7.out (fun k hk=>?_)
          have:=World.ownsRow.lt Hrow2.out k hk
          omega
end Go.Proofs.YtfkecmlmnhbmoaaGreatDoor
