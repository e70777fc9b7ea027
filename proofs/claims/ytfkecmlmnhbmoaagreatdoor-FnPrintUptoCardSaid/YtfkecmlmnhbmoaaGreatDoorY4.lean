/- The texts A5 of the workbench, laid together. -/
import Derived.Test.YtfkecmlmnhbmoaaGreatDoorProg
import Derived.WalkKit
import Derived.WalkLawsBesides
import Derived.WalkSpells
import Derived.BigQuiet
import Derived.BigRegion
import Derived.Deep.QuietTactic
import Derived.Deep.RegionHeld3
import Derived.Deep.LoopGhost
import Derived.StillTailTactics
import Derived.Lib.Hide
import Derived.Laws.EntriesVeiled
import Derived.Laws.BytesString
import Derived.Test.YtfkecmlmnhbmoaaGreatDoorY2
set_option linter.unusedVariables false
set_option linter.unusedSimpArgs false
namespace Go.Proofs.YtfkecmlmnhbmoaaGreatDoor
open Go Go.RowKit
theorem Tryz.info5:(Tryz.prog.info? 5).map (fun i=>(i.zero,i.size,i.bytes))=some (some (.int .u8 0),1,1):=by kernel_rfl
def OwnB (B:Nat) (w:World) (v:Value) (l:By):Prop:=w.ownsRow B 5 1 v l.length (l.map fun c=>Value.int .u8 (c.toNat:Int))
theorem OwnB.nil (B:Nat) (w:World):OwnB B w (.slice none 0 0) []:=World.ownsRow_nil _ _ _ _
theorem OwnB.lt {B:Nat} {w:World} {v:Value} {l:By} (h:OwnB B w v l):∀ k,v.ownBlock=some k→B≤k∧k < w.heap.size:=World.ownsRow.lt h
theorem OwnB.kept {B:Nat} {w w':World} {v:Value} {l:By} (h:OwnB B w v l) {r:Option Nat} (hg:w.grownBy w' r) (hr:∀ k,r=some k→k < B):OwnB B w' v l:=by
 refine World.ownsRow.kept h hg ?_
 cases hv:v.ownBlock with
 | none=>exact .inl rfl
 | some k =>
  right
  intro e
  have:=(h.lt k hv).1
  have:=hr k e.symm
  omega
theorem OwnB.set {B:Nat} {w:World} {v:Value} {l:By} (h:OwnB B w v l) {b i:Nat} (hb:b < B) (u:Value):OwnB B (w.setCell ⟨b,i,none⟩ u) v l :=
 h.kept (gr_set (World.grownBy.refl w (some b)) i u) (fun k hk=>by injection hk with hk;omega)
theorem OwnB.drewN {B:Nat} {w:World} {v:Value} {l:By} (h:OwnB B w v l) (n:Nat):OwnB B (w.drewN n) v l:=h
theorem OwnB.drew {B:Nat} {w:World} {v:Value} {l:By} (h:OwnB B w v l):OwnB B w.drew v l:=h
theorem OwnB.alloc {B:Nat} {w:World} {v:Value} {l:By} (h:OwnB B w v l) (o:Obj):OwnB B (w.alloc o) v l:=World.ownsRow.alloc h o
theorem gr_then {w wr w1:World} {b:Nat} {r:Option Nat} (h:w.grownBy wr (some b)) (k:wr.grownBy w1 r) (hr:∀ j,r=some j→w.heap.size≤j):w.grownBy w1 (some b) :=
 h.andThen k (fun j hj=>.inl (hr j hj))
theorem gr_noneThen {w wr w1:World} {r:Option Nat} (h:w.grownBy wr none) (k:wr.grownBy w1 r) (hr:∀ j,r=some j→w.heap.size≤j):w.grownBy w1 none :=
 h.andThen k (fun j hj=>.inl (hr j hj))
theorem wpList_push {w:World} {ops:Array Oper} {rest:List Oper} {o:Oper} {a:Act} {Q:Exit→Act→World→Prop} (hgd:o.guard=Option.none) (s x:Operand)
  (ho:o.op=.call { callee:=.builtin .append,args:=#[s,x],argTypes:=#[84,84] }) (B:Nat) (v:Value) (l:By) (c:UInt8) (n:Int) (hs:a.eval s=v) (hown:OwnB B w v l)
  (ad:Addr) (hx:a.eval x=.slice (some ad) 1 1) (hcell:w.cell? ad=some (.int .u8 n)) (hn:n=(c.toNat:Int)) (hl:l.length + 1≤140737488355328) (hB:B≤w.heap.size)
  (h:∀ v' w',OwnB B w' v' (l ++ [c])→w.grownBy w' v.ownBlock→wpList Tryz.prog ops Q rest (a.put o.dst v') w'):wpList Tryz.prog ops Q (o::rest) a w:=by
 obtain ⟨i,hi,hz0,hz1,hz2⟩:=info_parts Tryz.info5
 subst hn
 refine wpList_append_own w hgd s x 84 ho B 5 i (.int .u8 0) 1 1 Tryz.underlying84 hi hz0 hz1 hz2 rfl (by decide) v l.length _ hs hown ad 1 1 [.int .u8 (c.toNat:Int)] hx rfl ?_ ?_ (by unfold maxLen;omega) (by omega) hB ?_
 ·intro j u hj
  match j,hj with
  | 0,hj=>simp at hj;subst hj;rw [show ad.add 0=ad from by simp [Addr.add]];exact hcell
  | j + 1,hj=>simp at hj
 ·intro u hu;simp at hu;subst hu;rfl
 ·intro v' w' h1 h2 _
  exact h v' w' (by unfold OwnB;simpa using h1) h2
theorem bytes_fold:∀ (l:By) (r:ByteArray),(l.map fun c=>(c.toNat:Int)).foldl (fun r n=>r.push (UInt8.ofNat n.toNat)) r=⟨(r.data.toList ++ l).toArray⟩:=by
 intro l
 induction l with
 | nil=>intro r;cases r;simp
 | cons c l ih =>
  intro r
  simp only [List.map_cons,List.foldl_cons,ih]
  cases r
  simp [ByteArray.push]
theorem run_ownString {w:World} {B:Nat} {v:Value} {l:By} (hown:OwnB B w v l):(convert 84 9 v).run Tryz.prog w=.ok (.string ⟨l.toArray⟩) w:=by
 obtain ⟨h1,h2⟩:=hown
 rcases h2 with ⟨rfl,h0⟩ | ⟨g,cap,cur,rfl,hb,hg,hc,hm,hs,ht⟩
 ·have:l=[]:=List.eq_nil_of_length_eq_zero h0
  subst this
  rw [run_convert_bytes_string w 84 9 5 Option.none 0 0 Tryz.underlying84 Tryz.underlying5 Tryz.underlying9]
  rfl
 ·rw [run_convert_bytes_string w 84 9 5 (some ⟨g,0,Option.none⟩) l.length cap Tryz.underlying84 Tryz.underlying5 Tryz.underlying9]
  rw [run_bytesToString w ⟨g,0,Option.none⟩ l.length cap (l.map fun c=>(c.toNat:Int))]
  ·rw [bytes_fold];rfl
  ·have:=run_loadCells_list (P:=Tryz.prog) w ⟨g,0,Option.none⟩ (l.map fun c=>Value.int .u8 (c.toNat:Int)) (World.ownsRow.cells ⟨h1,.inr ⟨g,cap,cur,rfl,hb,hg,hc,hm,hs,ht⟩⟩ rfl)
   simpa [Function.comp_def] using this
theorem wpList_ownstr {w:World} {ops:Array Oper} {rest:List Oper} {o:Oper} {a:Act} {Q:Exit→Act→World→Prop} (hgd:o.guard=Option.none) (x:Operand)
  (ho:o.op=.convert 84 9 x) (B:Nat) (l:By) (hown:OwnB B w (a.eval x) l) (h:wpList Tryz.prog ops Q rest (a.put o.dst (.string ⟨l.toArray⟩)) w):wpList Tryz.prog ops Q (o::rest) a w:=by
 refine wpList_plain hgd fun K hK=>?_
 unfold Oper.wp
 simp only [execOp,ho]
 have:=run_ownString hown
 simp [Sem.run_map,Sem.run_bind,this,Result.andThen,Oper.upon]
 exact hK _ _ h
end Go.Proofs.YtfkecmlmnhbmoaaGreatDoor
