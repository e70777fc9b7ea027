/- The texts F13z G18 C1 P20 G19 G20 G21 G22 G23 G24 J3 of the workbench, laid together. -/
import Derived.Test.YtfkecmlmnhbmoaaGreatDoorProg
import Derived.WalkKit
import Derived.WalkLawsBesides
import Derived.WalkSpells
import Derived.BigQuiet
import Derived.BigRegion
import Derived.Deep.QuietTactic
import Derived.Deep.RegionHeld3
import Derived.Deep.LoopGhost
import Derived.StillTailTactics
import Derived.Lib.Hide
import Derived.Laws.EntriesVeiled
import Derived.Defers
import Derived.Recover
import Derived.Maps.Own
import Derived.Maps.OwnSet
import Derived.Maps.RangeWalk
import Derived.Maps.Views
import Derived.Sort.KeysCollected
import Derived.Maps.AppendAt
import Derived.Test.YtfkecmlmnhbmoaaGreatDoorY4
import Derived.Test.YtfkecmlmnhbmoaaGreatDoorY15
import Derived.Test.YtfkecmlmnhbmoaaGreatDoorY16
import Derived.Test.YtfkecmlmnhbmoaaGreatDoorY19
import Derived.Test.YtfkecmlmnhbmoaaGreatDoorY21
import Derived.Test.YtfkecmlmnhbmoaaGreatDoorY23
import Derived.Test.YtfkecmlmnhbmoaaGreatDoorY26
set_option linter.unusedVariables false
set_option linter.unusedSimpArgs false
namespace Go.Proofs.YtfkecmlmnhbmoaaGreatDoor
open Go Go.RowKit
theorem rf_any (w:World) (s:ByteArray) (l:By) (hs:s.data.toList=l) (hok:numOk l) (hs2:s.size≤1000) :
  Calls Tryz.prog 143 #[.string s] w fun e w'=>e=rfRet l s.size∧w'=w:=by
 obtain ⟨pre,c,l1,d,a,rfl,hp,hst,hsc,hd1,hd2,ha⟩:=numOk_parts hok
 rcases hp with rfl | rfl | rfl
 ·exact rf_nil w s c l1 d a hs hst hsc hd1 hd2 ha hs2
 ·exact rf_b w s c l1 d a hs hst hsc hd1 hd2 ha hs2
 ·exact rf_c w s c l1 d a hs hst hsc hd1 hd2 ha hs2
end Go.Proofs.YtfkecmlmnhbmoaaGreatDoor
namespace Go.Proofs.YtfkecmlmnhbmoaaGreatDoor
open Go Go.RowKit
end Go.Proofs.YtfkecmlmnhbmoaaGreatDoor
namespace Go.Proofs.YtfkecmlmnhbmoaaGreatDoor
open Go Go.RowKit
set_option maxRecDepth 100000 in
set_option maxHeartbeats 40000000 in
theorem val1_d (w:World) (b bx:Nat) (deep:Int) (u:FrameMode) (hx:w.cell? ⟨bx,0,none⟩=some (.pointer (some ⟨b,0,none⟩))) (h3:w.cell? ⟨b,3,none⟩=some (.int .i64 deep)) (hf:w.frozen? ⟨b,3,none⟩=false) (hd1:-1000≤deep) (hd2:deep≤1000) :
  CallsD Tryz.prog 44 #[.pointer (some ⟨bx,0,none⟩)] u w fun e u' w'=>u'=u∧(e=.returned (.tuple #[])∧w'=w.setCell ⟨b,3,none⟩ (.int .i64 (deep - 1))):=by
 go_enter_d Tryz.func44,Tryz.ntmps44
 go_wp2_with fail
 go_end0
 exact ⟨rfl,rfl⟩
set_option maxRecDepth 100000 in
set_option maxHeartbeats 40000000 in
theorem valB_any:ValB:=by
 intro w b s p l bad deep odd ends hs hR hbad
 have hbd:(bad != 0)=true:=by simpa using hbad
 have hbB:=hR.lt
 have HR:=Lib.hid hR;clear hR
 have Hbad:=Lib.hid hbad;clear hbad
 have hal:=alloc2 w w.heap.size rfl (.cells #[.pointer (some ⟨b,0,none⟩)] 55 (0,0)) (.cells #[.int .i64 0,.int .i64 0,.int .i64 0,.float .f64 0,.string ⟨#[]⟩,.slice none 0 0,.slice none 0 0] 30 (0,0))
 have hmf:∀ (fn:Fn) (first cap:Array Value) (w:World),(Instr.makeFunc fn first cap).run Tryz.prog w=.ok (.func fn first cap) w:=fun _ _ _ _=>rfl
 go_enter_defers Tryz.func28,Tryz.ntmps28
 go_wp2_with fail
 refine (pass_any _ b s p l bad deep odd ends (by exact (HR.out.alloc _).alloc _) (by omega)).mono ?_
 rintro e w1 ⟨rfl,⟨p1,hR1⟩,hg1⟩
 have hb1:=keep hg1 hal.1 (by simp;omega)
 have hb2:=keep hg1 hal.2 (by simp;omega)
 have d0:w1.cell? ⟨w.heap.size,0,none⟩=some (.pointer (some ⟨b,0,none⟩)):=by simp [World.cell?,hb1]
 obtain ⟨z0,z1,z2,z3,z4,z5,z6,zf⟩:=zb_cells hb2
 obtain ⟨c0,c1,c2,c3,c4,c5,cf⟩:=hR1.cells
 have hbz:¬b=w.heap.size + 1:=by omega
 have hbz2:¬w.heap.size=w.heap.size + 1:=by omega
 have HG1:=Lib.hid (gr_same (gr_alloc (gr_alloc (World.grownBy.refl w (some b)) _) _) hg1)
 have HR1:=Lib.hid hR1;clear hR1
 clear hg1 hal hb1 hb2
 go_wp2_with fail
 refine Exists.intro zeroV ⟨by simp [results,Tryz.results28,go_sem,zeroV,z0,z1,z2,z3,z4,z5,z6,hbz2],?_⟩
 exact ⟨rfl,⟨p1,(passM false l odd).1,(passM false l odd).2,(by repeat (first | with_reducible exact HR1.out | with_reducible apply RdAt.alloc | with_reducible apply RdAt.set4 | ((with_reducible refine RdAt.setO ?_ ?_ _ _);rotate_left;(first | omega | (simp;omega)))))⟩,(by repeat (first | with_reducible exact HG1.out | with_reducible apply gr_alloc | with_reducible apply gr_drewN | with_reducible apply gr_drew | with_reducible apply gr_set | ((with_reducible refine gr_setM ?_ ?_ _ _);rotate_left;(first | omega | (simp;omega)))))⟩
end Go.Proofs.YtfkecmlmnhbmoaaGreatDoor
namespace Go.Proofs.YtfkecmlmnhbmoaaGreatDoor
mutual
def lvV:PV→Nat
 | .arr kids=>lvVs kids + 1
 | .dict _ kids=>lvVs kids + 1
 | _=>1
def lvVs:List PV→Nat
 | []=>0
 | x::xs=>max (lvV x) (lvVs xs)
end
mutual
def szV:PV→Nat
 | .arr kids=>szVs kids + 1
 | .dict _ kids=>szVs kids + 1
 | _=>1
def szVs:List PV→Nat
 | []=>0
 | x::xs=>szV x + szVs xs
end
theorem lvVs_app (l:List PV) (x:PV):lvVs (l ++ [x])=max (lvVs l) (lvV x):=by
 induction l with
 | nil=>simp [lvVs]
 | cons y l ih=>simp only [List.cons_append,lvVs,ih];omega
theorem szVs_app (l:List PV) (x:PV):szVs (l ++ [x])=szVs l + szV x:=by
 induction l with
 | nil=>simp [szVs]
 | cons y l ih=>simp only [List.cons_append,szVs,ih];omega
theorem lvVs_take {l:List PV} {i:Nat} {p:PV} (h:l[i]?=some p):lvVs (l.take (i + 1))=max (lvVs (l.take i)) (lvV p):=by
 rw [List.take_add_one,h];exact lvVs_app _ _
theorem szVs_take {l:List PV} {i:Nat} {p:PV} (h:l[i]?=some p):szVs (l.take (i + 1))=szVs (l.take i) + szV p:=by
 rw [List.take_add_one,h];exact szVs_app _ _
theorem lvV_mem {l:List PV} {p:PV} (h:p∈l):lvV p≤lvVs l:=by
 induction l with
 | nil=>simp at h
 | cons y l ih =>
  simp only [lvVs]
  rcases List.mem_cons.1 h with rfl | h
  ·omega
  ·have:=ih h;omega
theorem lvV_pos (x:PV):1≤lvV x:=by cases x<;>simp [lvV]
end Go.Proofs.YtfkecmlmnhbmoaaGreatDoor
namespace Go.Proofs.YtfkecmlmnhbmoaaGreatDoor
open Go Go.RowKit
end Go.Proofs.YtfkecmlmnhbmoaaGreatDoor
namespace Go.Proofs.YtfkecmlmnhbmoaaGreatDoor
open Go Go.RowKit
end Go.Proofs.YtfkecmlmnhbmoaaGreatDoor
namespace Go.Proofs.YtfkecmlmnhbmoaaGreatDoor
open Go Go.RowKit
open Go.Maps
def RV:Value→Option (DataW Value × List MemPlace):=fun v=>some (.held v,[])
theorem keyed9:Keyed Tryz.prog 9:=Maps.string_keyed (by kernel_rfl)
theorem key9 (k:By) (hk:k.length≤maxLen):keyOf Tryz.prog 9 (.string (bs k))=some (.string k):=by
 have hu:Tryz.prog.underlying 9=some .string:=by kernel_rfl
 have h2:(⟨k.toArray⟩:ByteArray).size≤maxLen:=by have:=bs_size k;unfold bs at this;omega
 simp [keyOf,hu,mapKey,h2,bs]
def DictAt (w:World) (b:Nat) (keys:List By) (vals:List Value):Prop :=
 keys.length=vals.length∧keys.Nodup∧∃ D,w.ownsMap Tryz.prog 9 RV b keys.length D∧(∀ k:By,Maps.has D (.string k)=decide (k∈keys))∧∀ (i:Nat) k v,keys[i]?=some k→vals[i]?=some v→∀ z,D.atKey (.string k) z=.held v
theorem DictAt.new (w:World):DictAt (w.alloc (.map #[] 0)) w.heap.size [] [] :=
 ⟨rfl,List.nodup_nil,_,World.ownsMap_made w _ _ _,by intro k;simp [Maps.has],by intro i k v h;simp at h⟩
theorem DictAt.lt {w:World} {b:Nat} {keys:List By} {vals:List Value} (h:DictAt w b keys vals):b < w.heap.size:=by
 obtain ⟨_,_,D,h,_⟩:=h
 exact h.lt
theorem DictAt.keep {w w':World} {b:Nat} {keys:List By} {vals:List Value} (h:DictAt w b keys vals) (hb:w'.heap[b]?=w.heap[b]?):DictAt w' b keys vals:=by
 obtain ⟨h1,h2,D,⟨es,clock,h3,h4⟩,h5⟩:=h
 exact ⟨h1,h2,D,⟨es,clock,hb.trans h3,h4⟩,h5⟩
theorem DictAt.put {w':World} {b:Nat} {keys:List By} {vals:List Value} {k:By} {v:Value} {D:DataW Value} (h1:keys.length=vals.length) (h2:keys.Nodup) (hT:Maps.IsMap D) (h3:∀ k:By,Maps.has D (.string k)=decide (k∈keys))
  (h4:∀ (i:Nat) k v,keys[i]?=some k→vals[i]?=some v→∀ z,D.atKey (.string k) z=.held v) (hk:k∉keys) (hown:w'.ownsMap Tryz.prog 9 RV b (keys.length + 1) (D.put (.string k) (.held v))):DictAt w' b (keys ++ [k]) (vals ++ [v]):=by
 refine ⟨by simp [h1],?_,_,by simpa using hown,?_,?_⟩
 ·rw [List.nodup_append]
  exact ⟨h2,by simp,fun a ha c hc e=>by simp at hc;subst hc;subst e;exact hk ha⟩
 ·intro q
  by_cases hq:q=k
  ·subst hq
   rw [Maps.has_put_same hT (show WideAt.IsKeyLit (.string q) from trivial)]
   simp
  ·rw [Maps.has_put_other (by simpa using hq),h3]
   simp [hq]
 ·intro i q u hq hu z
  by_cases hi:i < keys.length
  ·rw [List.getElem?_append_left hi] at hq
   rw [List.getElem?_append_left (by omega)] at hu
   have hqk:q≠k:=by rintro rfl;exact hk (List.mem_of_getElem? hq)
   rw [Maps.atKey_put_other (by simpa using hqk)]
   exact h4 i q u hq hu z
  ·rw [List.getElem?_append_right (by omega)] at hq
   rw [List.getElem?_append_right (by omega)] at hu
   have hi0:i - keys.length=0:=by
    by_cases h0:i - keys.length=0
    ·exact h0
    ·obtain ⟨j,hj⟩:∃ j,i - keys.length=j + 1:=⟨i - keys.length - 1,by omega⟩
     rw [hj] at hq;simp at hq
   have hi1:i - vals.length=0:=by omega
   rw [hi0] at hq
   rw [hi1] at hu
   simp at hq hu
   subst hq;subst hu
   exact Maps.atKey_put_same hT (show WideAt.IsKeyLit (.string k) from trivial) _ _
def KeysOk (keys:List By):Prop:=keys.length≤1000000∧∀ k∈keys,k.length≤1000000
mutual
def ObjO (S:Nat→Prop) (w:World):PO→Value→Prop
 | .null,v=>v=.nilIface
 | .bool x,v=>v=.iface 66 (.bool x)
 | .int n,v=>v=.iface 67 (.int .i64 n)
 | .real x,v=>v=.iface 68 (.float .f64 x)
 | .lit s,v=>s.length≤319999∧v=.iface 69 (.string (bs s))
 | .hexl s,v=>s.length≤319999∧v=.iface 70 (.string (bs s))
 | .name s,v=>s.length≤319999∧v=.iface 71 (.string (bs s))
 | .ref n g,v=>v=.iface 73 (.agg #[.int .i64 n,.int .i64 g])
 | .arr kids,v=>kids.length≤1000000∧∃ sl cells,v=.iface 77 sl∧SlAt S w sl 1 kids.length cells∧ObjOs S w kids cells
 | .dict keys kids,v=>KeysOk keys∧∃ b vals,v=.iface 81 (.map (some b))∧S b∧DictAt w b keys vals∧ObjOs S w kids vals
def ObjOs (S:Nat→Prop) (w:World):List PO→List Value→Prop
 | [],c=>c=[]
 | p::ps,c=>∃ v rest,c=v::rest∧ObjO S w p v∧ObjOs S w ps rest
end
mutual
theorem ObjO.keep {S S':Nat→Prop} {w w':World} (hS:∀ k,S k→S' k∧w'.heap[k]?=w.heap[k]?):∀ (p:PO) (v:Value),ObjO S w p v→ObjO S' w' p v
 | .arr kids,v,h=>by
  simp only [ObjO] at h ⊢
  obtain ⟨h0,sl,cells,h1,h2,h3⟩:=h
  exact ⟨h0,sl,cells,h1,h2.keep hS,ObjOs.keep hS kids cells h3⟩
 | .dict keys kids,v,h=>by
  simp only [ObjO] at h ⊢
  obtain ⟨h0,b,vals,h1,h2,h3,h4⟩:=h
  exact ⟨h0,b,vals,h1,(hS b h2).1,h3.keep (hS b h2).2,ObjOs.keep hS kids vals h4⟩
 | .null,v,h=>by simpa only [ObjO] using h
 | .bool _,v,h=>by simpa only [ObjO] using h
 | .int _,v,h=>by simpa only [ObjO] using h
 | .real _,v,h=>by simpa only [ObjO] using h
 | .lit _,v,h=>by simpa only [ObjO] using h
 | .hexl _,v,h=>by simpa only [ObjO] using h
 | .name _,v,h=>by simpa only [ObjO] using h
 | .ref _ _,v,h=>by simpa only [ObjO] using h
theorem ObjOs.keep {S S':Nat→Prop} {w w':World} (hS:∀ k,S k→S' k∧w'.heap[k]?=w.heap[k]?):∀ (ps:List PO) (c:List Value),ObjOs S w ps c→ObjOs S' w' ps c
 | [],c,h=>by simpa only [ObjOs] using h
 | p::ps,c,h=>by
  simp only [ObjOs] at h ⊢
  obtain ⟨v,rest,h1,h2,h3⟩:=h
  exact ⟨v,rest,h1,ObjO.keep hS p v h2,ObjOs.keep hS ps rest h3⟩
end
theorem ObjOs.append {S:Nat→Prop} {w:World} {qs:List PO} {d:List Value} (hy:ObjOs S w qs d):∀ (ps:List PO) (c:List Value),ObjOs S w ps c→ObjOs S w (ps ++ qs) (c ++ d)
 | [],c,h=>by simp only [ObjOs] at h;subst h;simpa using hy
 | p::ps,c,h=>by
  simp only [ObjOs,List.cons_append] at h ⊢
  obtain ⟨v,rest,h1,h2,h3⟩:=h
  exact ⟨v,rest ++ d,by rw [h1];rfl,h2,ObjOs.append hy ps rest h3⟩
theorem ObjOs.one {S:Nat→Prop} {w:World} {p:PO} {v:Value} (h:ObjO S w p v):ObjOs S w [p] [v]:=by
 simp only [ObjOs]
 exact ⟨v,[],rfl,h,rfl⟩
theorem ObjOs.get {S:Nat→Prop} {w:World} : ∀ (ps:List PO) (c:List Value),ObjOs S w ps c→∀ (i:Nat) p,ps[i]?=some p→∃ v,c[i]?=some v∧ObjO S w p v
 | [],c,h,i,p,hi=>by simp at hi
 | q::ps,c,h,i,p,hi=>by
  simp only [ObjOs] at h
  obtain ⟨v,rest,h1,h2,h3⟩:=h
  subst h1
  cases i with
  | zero=>simp at hi;subst hi;exact ⟨v,by simp,h2⟩
  | succ i=>exact ObjOs.get ps rest h3 i p (by simpa using hi)
end Go.Proofs.YtfkecmlmnhbmoaaGreatDoor
namespace Go.Proofs.YtfkecmlmnhbmoaaGreatDoor
open Go Go.RowKit
open Go.Maps
theorem zero50 (w:World):(zeroValue 50).run Tryz.prog w=.ok .nilIface w:=by kernel_rfl
theorem IsMap.of {w:World} {b n:Nat} {D:DataW Value} (h:w.ownsMap Tryz.prog 9 RV b n D):Maps.IsMap D:=by
 obtain ⟨es,clock,_,_,_,rfl⟩:=h
 exact ⟨_,rfl⟩
end Go.Proofs.YtfkecmlmnhbmoaaGreatDoor
namespace Go.Proofs.YtfkecmlmnhbmoaaGreatDoor
open Go Go.RowKit
open Go.Maps
theorem ObjO.nil_or {S:Nat→Prop} {w:World} {p:PO} {v:Value} (h:ObjO S w p v):(p=.null∧v=.nilIface)∨(p≠.null∧∃ t u,v=.iface t u):=by
 cases p<;>simp only [ObjO] at h
 case null=>exact .inl ⟨rfl,h⟩
 case arr=>obtain ⟨_,sl,c,h,_⟩:=h;exact .inr ⟨by simp,_,_,h⟩
 case dict=>obtain ⟨_,b,c,h,_⟩:=h;exact .inr ⟨by simp,_,_,h⟩
 case lit=>exact .inr ⟨by simp,_,_,h.2⟩
 case hexl=>exact .inr ⟨by simp,_,_,h.2⟩
 case name=>exact .inr ⟨by simp,_,_,h.2⟩
 all_goals exact .inr ⟨by simp,_,_,h⟩
end Go.Proofs.YtfkecmlmnhbmoaaGreatDoor
namespace Go.Proofs.YtfkecmlmnhbmoaaGreatDoor
open Go Go.RowKit
open Go.Maps
end Go.Proofs.YtfkecmlmnhbmoaaGreatDoor
namespace Go.Proofs.YtfkecmlmnhbmoaaGreatDoor
open Go Go.RowKit
structure DstAt (w0 w:World) (v0 v:Value) (B:Nat) (l:By):Prop where
 own:OwnB B w v l
 gr:w0.grownBy w v0.ownBlock
 blk:v.ownBlock=v0.ownBlock∨∃ j,v.ownBlock=some j∧w0.heap.size≤j
 base:B≤w0.heap.size
theorem DstAt.start {w:World} {v:Value} {B:Nat} {l:By} (h:OwnB B w v l) (hB:B≤w.heap.size):DstAt w w v v B l:=⟨h,World.grownBy.refl _ _,.inl rfl,hB⟩
theorem DstAt.push {w0 w w':World} {v0 v v':Value} {B:Nat} {l l':By} {o:Obj} (h:DstAt w0 w v0 v B l) (h1:OwnB B w' v' l') (h2:(w.alloc o).grownBy w' v.ownBlock) (h3:v'.ownBlock=v.ownBlock∨v'.ownBlock=some (w.alloc o).heap.size):DstAt w0 w' v0 v' B l':=by
 have hs:=h.gr.size
 refine ⟨h1,(gr_alloc h.gr o).andThen h2 (fun j hj=>?_),?_,h.base⟩
 ·rcases h.blk with e | ⟨k,e,hk⟩
  ·right;rw [←e];exact hj
  ·left;rw [e] at hj;injection hj with hj;omega
 ·rcases h3 with e | e
  ·rcases h.blk with e2 | ⟨k,e2,hk⟩
   ·exact .inl (e.trans e2)
   ·exact .inr ⟨k,e.trans e2,hk⟩
  ·exact .inr ⟨_,e,by simp;omega⟩
theorem DstAt.cell {w0 w:World} {v0 v:Value} {B sb i:Nat} {l:By} (h:DstAt w0 w v0 v B l) (hsb:sb < w0.heap.size) (hne:v0.ownBlock≠some sb):w.cell? ⟨sb,i,none⟩=w0.cell? ⟨sb,i,none⟩ :=
 World.cell?_of_block (h.gr.block sb hsb (fun e=>hne e.symm))
theorem wpList_pushD {w:World} {ops:Array Oper} {rest:List Oper} {o:Oper} {a:Act} {Q:Exit→Act→World→Prop} (hgd:o.guard=Option.none) (s x:Operand)
  (ho:o.op=.call { callee:=.builtin .append,args:=#[s,x],argTypes:=#[84,84] }) (B:Nat) (v:Value) (l:By) (c:UInt8) (n:Int) (hs:a.eval s=v) (hown:OwnB B w v l)
  (ad:Addr) (hx:a.eval x=.slice (some ad) 1 1) (hcell:w.cell? ad=some (.int .u8 n)) (hn:n=(c.toNat:Int)) (hl:l.length + 1≤140737488355328) (hB:B≤w.heap.size)
  (h:∀ v' w',OwnB B w' v' (l ++ [c])→w.grownBy w' v.ownBlock→(v'.ownBlock=v.ownBlock∨v'.ownBlock=some w.heap.size)→wpList Tryz.prog ops Q rest (a.put o.dst v') w'):wpList Tryz.prog ops Q (o::rest) a w:=by
 obtain ⟨i,hi,hz0,hz1,hz2⟩:=info_parts Tryz.info5
 subst hn
 refine wpList_append_own_at w hgd s x 84 ho B 5 i (.int .u8 0) 1 1 Tryz.underlying84 hi hz0 hz1 hz2 rfl (by decide) v l.length _ hs hown ad 1 1 [.int .u8 (c.toNat:Int)] hx rfl ?_ ?_ (by unfold maxLen;omega) (by omega) hB ?_
 ·intro j u hj
  match j,hj with
  | 0,hj=>simp at hj;subst hj;rw [show ad.add 0=ad from by simp [Addr.add]];exact hcell
  | j + 1,hj=>simp at hj
 ·intro u hu;simp at hu;subst hu;rfl
 ·intro v' w' h1 h2 _ h4
  exact h v' w' (by unfold OwnB;simpa using h1) h2 h4
end Go.Proofs.YtfkecmlmnhbmoaaGreatDoor
