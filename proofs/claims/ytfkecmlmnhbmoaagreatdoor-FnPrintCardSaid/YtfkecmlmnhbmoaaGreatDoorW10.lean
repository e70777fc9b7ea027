/- Parts B2. -/
import Derived.Test.YtfkecmlmnhbmoaaGreatDoorW9
set_option linter.unusedVariables false
set_option linter.unusedSimpArgs false
set_option maxRecDepth 100000
set_option maxHeartbeats 40000000
namespace Go.Proofs.YtfkecmlmnhbmoaaGreatDoor
open Go Go.RowKit
theorem keep {w w':World}{r:Option Nat}{k:Nat}{o:Obj}(hg:w.grownBy w' r)(h:w.heap[k]?=some o)(hk:some k≠r):w'.heap[k]?=some o :=
 (hg.block k (xgl h) hk).trans h
def pvKind:PV→Int
 | .null=>0 | .bool _=>1 | .int _=>2 | .real _=>3 | .str _=>4 | .name _=>5 | .arr _=>6 | .dict _ _=>7 | .ref _ _=>8
def pvInt:PV→Int
 | .bool n=>n | .int n=>n | .ref n _=>n|_=>0
def pvGen:PV→Int
 | .ref _ g=>g|_=>0
def pvReal:PV→Nat
 | .real x=>x|_=>0
def pvText:PV→By
 | .str l=>l | .name l=>l|_=>[]
def valOf (x:PV)(ks vs:Value):Value:=.agg #[.int .i64 (pvKind x),.int .i64 (pvInt x),.int .i64 (pvGen x),.float .f64 (pvReal x),.string ⟨(pvText x).toArray⟩,ks,vs]
def nilS:Value:=.slice none 0 0
def RefPost (w w':World)(b:Nat)(s:ByteArray)(deep:Int)(ends:Bool)(e:Ending):Rd PV→Prop
 | some (x,r,o)=>e=.returned (valOf x nilS nilS)∧(∃p',RdAt w' b s p' r 0 deep o ends)∧w.grownBy w' (some b)
 | none=>e=.returned zeroV∧(∃p' l' o',RdAt w' b s p' l' 2 deep o' ends)∧w.grownBy w' (some b)
theorem cells7 {w:World}{b:Nat}{a0 a1 a2 a3 a4 a5 a6:Value}{e:TypeId}(h:w.heap[b]?=some (.cells #[a0,a1,a2,a3,a4,a5,a6] e (0,0))):w.cell? ⟨b,0,none⟩=some a0∧w.cell? ⟨b,1,none⟩=some a1∧w.cell? ⟨b,2,none⟩=some a2∧w.cell? ⟨b,3,none⟩=some a3 ∧
  w.cell? ⟨b,4,none⟩=some a4∧w.cell? ⟨b,5,none⟩=some a5∧w.cell? ⟨b,6,none⟩=some a6∧(∀i,w.frozen? ⟨b,i,none⟩=false):=by
 simp[World.cell?,World.frozen?,h]
theorem alloc3 (w:World)(o1 o2 o3:Obj):(((w.alloc o1).alloc o2).alloc o3).heap[w.heap.size]?=some o1∧(((w.alloc o1).alloc o2).alloc o3).heap[w.heap.size+1]?=some o2∧(((w.alloc o1).alloc o2).alloc o3).heap[w.heap.size+1+1]?=some o3∧(((w.alloc o1).alloc o2).alloc o3).heap.size=w.heap.size+1+1+1 ∧
  w.grownBy (((w.alloc o1).alloc o2).alloc o3) none:=by
 have s1:(w.alloc o1).heap.size=w.heap.size+1:=by simp
 have s2:((w.alloc o1).alloc o2).heap.size=w.heap.size+1+1:=by simp
 refine⟨?_,?_,?_,by simp,gr_alloc (gr_alloc (gr_alloc (xgr _ _) _) _) _⟩
 ·rw[Below.heap_alloc _ _ _ (by omega),Below.heap_alloc _ _ _ (by omega)];exact heap_alloc_new w o1
 ·rw[Below.heap_alloc _ _ _ (by omega),←s1];exact heap_alloc_new _ o2
 ·rw[←s2];exact heap_alloc_new _ o3
def NB (n:Int):Obj:=.cells #[.int .i64 2,.int .i64 n,.int .i64 0,.float .f64 0,.string ⟨#[]⟩,.slice none 0 0,.slice none 0 0] 30 (0,0)
structure RefI (w wi:World)(b:Nat)(s:ByteArray)(p l:By)(deep:Int)(odd ends:Bool)(n:Int)(p2 l2:By)(o2:Bool):Prop where
 hG:w.grownBy wi (some b)
 hR:RdAt wi b s p l 0 deep odd ends
 hA:RdAt wi (w.heap.size+1+1) s p2 l2 0 deep o2 ends
 hV:wi.heap[w.heap.size]?=some (NB n)
 hZ:wi.heap[w.heap.size+1]?=some (.cells #[.int .i64 0,.int .i64 0,.int .i64 0,.float .f64 0,.string ⟨#[]⟩,.slice none 0 0,.slice none 0 0] 30 (0,0))
 hb:b<w.heap.size
theorem RefI.call {w wi:World}{b:Nat}{s:ByteArray}{p l:By}{deep:Int}{odd ends:Bool}{n:Int}{p2 l2:By}{o2:Bool}(h:RefI w wi b s p l deep odd ends n p2 l2 o2){w':World}{p3 l3:By}{o3:Bool}
  (hg:wi.grownBy w' (some (w.heap.size+1+1)))(hA:RdAt w' (w.heap.size+1+1) s p3 l3 0 deep o3 ends):RefI w w' b s p l deep odd ends n p3 l3 o3:=by
 have:=h.hb;exact⟨gr_then h.hG hg (fun j hj=>by injection hj with hj;omega),h.hR.grown hg (by simp;omega),hA,keep hg h.hV (by simp;omega),keep hg h.hZ (by simp),h.hb⟩
theorem RefI.call0 {w wi:World}{b:Nat}{s:ByteArray}{p l:By}{deep:Int}{odd ends:Bool}{n:Int}{p2 l2:By}{o2:Bool}(h:RefI w wi b s p l deep odd ends n p2 l2 o2){w':World}
  (hg:wi.grownBy w' none):RefI w w' b s p l deep odd ends n p2 l2 o2 :=
 ⟨gr_then h.hG hg (fun j hj=>by cases hj),h.hR.grown hg (by simp),h.hA.grown hg (by simp),keep hg h.hV (by simp),keep hg h.hZ (by simp),h.hb⟩
theorem RefI.odd {w wi:World}{b:Nat}{s:ByteArray}{p l:By}{deep:Int}{odd ends:Bool}{n:Int}{p2 l2:By}{o2:Bool}(h:RefI w wi b s p l deep odd ends n p2 l2 o2)(o:Bool) :
  RefI w (wi.setCell ⟨b,4,none⟩ (.bool o)) b s p l deep o ends n p2 l2 o2:=by
 have hb:=h.hb;have hg:wi.grownBy (wi.setCell ⟨b,4,none⟩ (.bool o)) (some b):=gr_set (xgr _ _) _ _;exact⟨gr_same h.hG hg,h.hR.set4 o,h.hA.grown hg (by simp;omega),keep hg h.hV (by simp;omega),keep hg h.hZ (by simp;omega),h.hb⟩
theorem RdAt.setO {w:World}{b:Nat}{s:ByteArray}{p l:By}{bad deep:Int}{odd ends:Bool}(h:RdAt w b s p l bad deep odd ends){b':Nat}(hb:b≠b')(i:Nat)(v:Value):RdAt (w.setCell ⟨b',i,Option.none⟩ v) b s p l bad deep odd ends :=
 h.grown (gr_set (xgr w (some b')) i v) (by simp;omega)
theorem gr_setM {w wr:World}{r:Option Nat}{b:Nat}(h:w.grownBy wr r)(hb:w.heap.size≤b)(i:Nat)(v:Value):w.grownBy (wr.setCell ⟨b,i,none⟩ v) r :=
 ⟨h.os,h.tape,h.output,by simpa using h.size,fun k hk hkb=>(Below.heap_setCell _ _ _ _ (by simp;omega)).trans (h.block k hk hkb)⟩
def NG (gk gn:Int)(gx:Nat):Obj:=.cells #[.int .i64 gk,.int .i64 gn,.int .i64 0,.float .f64 gx,.string ⟨#[]⟩,.slice none 0 0,.slice none 0 0] 30 (0,0)
theorem ref_1 {pf:By→Nat}{l la lc:By}{odd oa oc O:Bool}{gk gn st n:Int}{gx:Nat}{tl W:By}(h1:passM false l odd=(la,oa))(hN:numF pf (wordT la)=(gk,gn,gx,st))(hst:(st==1)=false)(h5:passM false (wordR la) (wordO la oa)=(lc,oc))(hW:wordT lc=W)(hO:wordO lc oc=O)
  (hc:W≠[82]∨st≠0∨gk≠2∨headIs (wordT la) isDig=false∨headIs tl isDig=false):refF pf n tl l odd=some (.int n,l,(odd||O)||headIs W (· == 82)):=by
 simp only[refF,h1,hN,hst,h5,hW,hO];rw[if_neg (by decide),if_pos hc]
theorem ref_2 {pf:By→Nat}{l la lc:By}{odd oa oc O:Bool}{gn n:Int}{gx:Nat}{tl:By}{c:UInt8}{W:By}(h1:passM false l odd=(la,oa))(hN:numF pf (wordT la)=(2,gn,gx,0))(h5:passM false (wordR la) (wordO la oa)=(lc,oc))(hW:wordT lc=c::W)(hO:wordO lc oc=O)
  (hw:c::W=[82])(hs:headIs (wordT la) isDig=true)(ht:headIs tl isDig=true)(hc:(n==0)=true∨65535<gn):refF pf n tl l odd=none:=by
 simp only[refF,h1,hN,h5,hW,hO,hw,hs,ht];rw[if_neg (by decide),if_neg (by simp),if_pos hc]
theorem ref_3 {pf:By→Nat}{l la lc:By}{odd oa oc O:Bool}{gn n:Int}{gx:Nat}{tl:By}{c:UInt8}{W:By}(h1:passM false l odd=(la,oa))(hN:numF pf (wordT la)=(2,gn,gx,0))(h5:passM false (wordR la) (wordO la oa)=(lc,oc))(hW:wordT lc=c::W)(hO:wordO lc oc=O)
  (hw:c::W=[82])(hs:headIs (wordT la) isDig=true)(ht:headIs tl isDig=true)(hn:(n==0)=false)(hg:¬65535<gn):refF pf n tl l odd=some (.ref n gn,wordR lc,O||hasPct (l.take (l.length-(wordR lc).length))):=by
 simp only[refF,h1,hN,h5,hW,hO,hw,hs,ht];rw[if_neg (by decide),if_neg (by simp),if_neg (by simp[hn,hg])]
theorem RefI.oddA {w wi:World}{b:Nat}{s:ByteArray}{p l:By}{deep:Int}{odd ends:Bool}{n:Int}{p2 l2:By}{o2:Bool}(h:RefI w wi b s p l deep odd ends n p2 l2 o2)(o:Bool) :
  RefI w (wi.setCell ⟨w.heap.size+1+1,4,none⟩ (.bool o)) b s p l deep odd ends n p2 l2 o :=
 h.call (gr_set (xgr _ _) _ _) (h.hA.set4 o)
theorem RdAt.jump {w:World}{b:Nat}{s:ByteArray}{p l:By}{bad deep:Int}{odd ends:Bool}(h:RdAt w b s p l bad deep odd ends){P2 r:By}(hs:s.data.toList=P2++r):RdAt (w.setCell ⟨b,1,Option.none⟩ (.int .i64 P2.length)) b s P2 r bad deep odd ends:=by
 refine⟨hs,?_⟩;simp[World.setCell,Array.getElem?_modify,h.2]
end Go.Proofs.YtfkecmlmnhbmoaaGreatDoor
