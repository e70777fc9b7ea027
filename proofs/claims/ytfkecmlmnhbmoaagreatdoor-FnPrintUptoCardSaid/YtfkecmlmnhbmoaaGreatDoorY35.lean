/- The texts K4 K5 K6 K7 D1 D3 Q11 of the workbench, laid together. -/
import Derived.Test.YtfkecmlmnhbmoaaGreatDoorProg
import Derived.WalkKit
import Derived.WalkLawsBesides
import Derived.WalkSpells
import Derived.BigQuiet
import Derived.BigRegion
import Derived.Deep.QuietTactic
import Derived.Deep.RegionHeld3
import Derived.Deep.LoopGhost
import Derived.StillTailTactics
import Derived.Lib.Hide
import Derived.Laws.EntriesVeiled
import Derived.Test.YtfkecmlmnhbmoaaGreatDoorY27
import Derived.Test.YtfkecmlmnhbmoaaGreatDoorY32
import Derived.Test.YtfkecmlmnhbmoaaGreatDoorY33
set_option linter.unusedVariables false
set_option linter.unusedSimpArgs false
namespace Go.Proofs.YtfkecmlmnhbmoaaGreatDoor
open Go Go.RowKit
open Go.Maps
end Go.Proofs.YtfkecmlmnhbmoaaGreatDoor
namespace Go.Proofs.YtfkecmlmnhbmoaaGreatDoor
open Go Go.RowKit
open Go.Maps
set_option maxRecDepth 100000 in
set_option maxHeartbeats 40000000 in
theorem fr_ret {w3:World} {B:Nat} {a0 a1 a2 a3 a4 a5 a6 v0 v1 v2 v3 v4 v5 v6 u3:Value} {tmps:Array Value} {R:Ending→World→Prop} (h2:tmps.getD 2 undef=.pointer (some ⟨B,0,none⟩)) (h3:tmps.getD 3 undef=u3)
  (hz:w3.heap[B]?=some (.cells #[a0,a1,a2,a3,a4,a5,a6] 30 (0,0)))
  (hR:∀ w',(∀ k,k≠B→w'.heap[k]?=w3.heap[k]?)→w'.heap.size=w3.heap.size→(∀ w0 r,World.grownBy w0 w3 r→w0.heap.size≤B→World.grownBy w0 w' r)→R (.returned (.tuple #[.agg #[v0,v1,v2,v3,v4,v5,v6],u3])) w'):bodyPost Tryz.prog Tryz.f18 R Exit.ret { tmps:=tmps,defers:=[] } (set7 w3 B v0 v1 v2 v3 v4 v5 v6):=by
 have hz4:=set7_at hz v0 v1 v2 v3 v4 v5 v6
 have hR4:=hR _ (fun k hk=>set7_other w3 B k v0 v1 v2 v3 v4 v5 v6 hk) (set7_size w3 B v0 v1 v2 v3 v4 v5 v6) (fun w0 r hg hB=>set7_gr hg hB v0 v1 v2 v3 v4 v5 v6)
 generalize set7 w3 B v0 v1 v2 v3 v4 v5 v6=w4 at *
 obtain ⟨y0,y1,y2,y3,y4,y5,y6,yf⟩:=cells7 hz4
 simp only [Array.getD_eq_getD_getElem?] at h2 h3
 exact bodyPost_ret (v:=.tuple #[.agg #[v0,v1,v2,v3,v4,v5,v6],u3]) (by simp [results,Tryz.results18,go_sem,h2,h3,y0,y1,y2,y3,y4,y5,y6]) rfl hR4
set_option maxRecDepth 100000 in
set_option maxHeartbeats 40000000 in
theorem fr_retd {w3:World} {B:Nat} {a0 a1 a2 a3 a4 a5 a6 v0 v1 v2 v3 v4 v5 v6 u3:Value} {tmps:Array Value} {R:Ending→World→Prop} (h2:tmps.getD 2 undef=.pointer (some ⟨B,0,none⟩)) (h3:tmps.getD 3 undef=u3)
  (hz:w3.heap[B]?=some (.cells #[a0,a1,a2,a3,a4,a5,a6] 30 (0,0)))
  (hR:∀ w',(∀ w0 r,World.grownBy w0 w3 r→w0.heap.size≤B→World.grownBy w0 w' r)→R (.returned (.tuple #[.agg #[v0,v1,v2,v3,v4,v5,v6],u3])) w'):bodyPost Tryz.prog Tryz.f18 R Exit.ret { tmps:=tmps,defers:=[] } (set7 w3 B v0 v1 v2 v3 v4 v5 v6).drew:=by
 have hz4:=set7_at hz v0 v1 v2 v3 v4 v5 v6
 have hR4:=hR (set7 w3 B v0 v1 v2 v3 v4 v5 v6).drew (fun w0 r hg hB=>gr_drew (set7_gr hg hB v0 v1 v2 v3 v4 v5 v6))
 generalize set7 w3 B v0 v1 v2 v3 v4 v5 v6=w4 at *
 have hz5:w4.drew.heap[B]?=some (.cells #[v0,v1,v2,v3,v4,v5,v6] 30 (0,0)):=hz4
 obtain ⟨y0,y1,y2,y3,y4,y5,y6,yf⟩:=cells7 hz5
 simp only [Array.getD_eq_getD_getElem?] at h2 h3
 exact bodyPost_ret (v:=.tuple #[.agg #[v0,v1,v2,v3,v4,v5,v6],u3]) (by simp [results,Tryz.results18,go_sem,h2,h3,y0,y1,y2,y3,y4,y5,y6]) rfl hR4
def Z30:Obj:=.cells #[.int .i64 0,.int .i64 0,.int .i64 0,.float .f64 0,.string ⟨#[]⟩,.slice none 0 0,.slice none 0 0] 30 (0,0)
theorem fr_world (w:World) (o:Obj):w.grownBy ((w.alloc o).alloc Z30) none∧((w.alloc o).alloc Z30).heap[w.heap.size]?=some o∧((w.alloc o).alloc Z30).heap[w.heap.size + 1]?=some Z30 :=
 ⟨gr_alloc (gr_alloc (World.grownBy.refl w none) _) _,(alloc2 w w.heap.size rfl o Z30).1,(alloc2 w w.heap.size rfl o Z30).2⟩
end Go.Proofs.YtfkecmlmnhbmoaaGreatDoor
namespace Go.Proofs.YtfkecmlmnhbmoaaGreatDoor
open Go Go.RowKit
open Go.Maps
end Go.Proofs.YtfkecmlmnhbmoaaGreatDoor
namespace Go.Proofs.YtfkecmlmnhbmoaaGreatDoor
open Go Go.RowKit
open Go.Maps
set_option maxRecDepth 100000 in
set_option maxHeartbeats 40000000 in
theorem fo_ret {w3:World} {B:Nat} {a0 a1 a2 a3 a4 a5 a6 v0 v1 v2 v3 v4 v5 v6 u3:Value} {tmps:Array Value} {R:Ending→World→Prop} (h2:tmps.getD 2 undef=.pointer (some ⟨B,0,none⟩)) (h3:tmps.getD 3 undef=u3)
  (hz:w3.heap[B]?=some (.cells #[a0,a1,a2,a3,a4,a5,a6] 30 (0,0)))
  (hR:∀ w',(∀ w0 r,World.grownBy w0 w3 r→w0.heap.size≤B→World.grownBy w0 w' r)→R (.returned (.tuple #[.agg #[v0,v1,v2,v3,v4,v5,v6],u3])) w'):bodyPost Tryz.prog Tryz.f7 R Exit.ret { tmps:=tmps,defers:=[] } (set7 w3 B v0 v1 v2 v3 v4 v5 v6):=by
 have hz4:=set7_at hz v0 v1 v2 v3 v4 v5 v6
 have hR4:=hR _ (fun w0 r hg hB=>set7_gr hg hB v0 v1 v2 v3 v4 v5 v6)
 generalize set7 w3 B v0 v1 v2 v3 v4 v5 v6=w4 at *
 obtain ⟨y0,y1,y2,y3,y4,y5,y6,yf⟩:=cells7 hz4
 simp only [Array.getD_eq_getD_getElem?] at h2 h3
 exact bodyPost_ret (v:=.tuple #[.agg #[v0,v1,v2,v3,v4,v5,v6],u3]) (by simp [results,Tryz.results7,go_sem,h2,h3,y0,y1,y2,y3,y4,y5,y6]) rfl hR4
end Go.Proofs.YtfkecmlmnhbmoaaGreatDoor
namespace Go.Proofs.YtfkecmlmnhbmoaaGreatDoor
open Go Go.RowKit
open Go.Maps
inductive OB where
 | mk (k i g:Int) (r:Nat) (t:By) (keys:List By) (kids:List OB)
def OB.k:OB→Int | .mk k _ _ _ _ _ _=>k
def OB.i:OB→Int | .mk _ i _ _ _ _ _=>i
def OB.g:OB→Int | .mk _ _ g _ _ _ _=>g
def OB.r:OB→Nat | .mk _ _ _ r _ _ _=>r
def OB.t:OB→By | .mk _ _ _ _ t _ _=>t
def OB.keys:OB→List By | .mk _ _ _ _ _ keys _=>keys
def OB.kids:OB→List OB | .mk _ _ _ _ _ _ kids=>kids
def b7 (o:OB) (ks vs:Value):List Value:=[.int .i64 o.k,.int .i64 o.i,.int .i64 o.g,.float .f64 o.r,.string (bs o.t),ks,vs]
def obV (o:OB) (ks vs:Value):Value:=.agg #[.int .i64 o.k,.int .i64 o.i,.int .i64 o.g,.float .f64 o.r,.string (bs o.t),ks,vs]
mutual
def IsB (S:Nat→Prop) (w:World):OB→Value→Value→Prop
 | .mk _ _ _ _ _ keys kids,ks,vs=>SlAt S w ks 1 keys.length (kvals keys)∧∃ cells,SlAt S w vs 7 kids.length cells∧IsBs S w kids cells
def IsBs (S:Nat→Prop) (w:World):List OB→List Value→Prop
 | [],cells=>cells=[]
 | x::xs,cells=>∃ ks vs rest,cells=b7 x ks vs ++ rest∧IsB S w x ks vs∧IsBs S w xs rest
end
mutual
theorem IsB.keep {S S':Nat→Prop} {w w':World} (hS:∀ k,S k→S' k∧w'.heap[k]?=w.heap[k]?):∀ (x:OB) (ks vs:Value),IsB S w x ks vs→IsB S' w' x ks vs
 | .mk _ _ _ _ _ keys kids,ks,vs,h=>by
  simp only [IsB] at h ⊢
  obtain ⟨h1,cells,h2,h3⟩:=h
  exact ⟨h1.keep hS,cells,h2.keep hS,IsBs.keep hS kids cells h3⟩
theorem IsBs.keep {S S':Nat→Prop} {w w':World} (hS:∀ k,S k→S' k∧w'.heap[k]?=w.heap[k]?):∀ (xs:List OB) (cells:List Value),IsBs S w xs cells→IsBs S' w' xs cells
 | [],cells,h=>by simp only [IsBs] at h ⊢;exact h
 | x::xs,cells,h=>by
  simp only [IsBs] at h ⊢
  obtain ⟨ks,vs,rest,h1,h2,h3⟩:=h
  exact ⟨ks,vs,rest,h1,IsB.keep hS x ks vs h2,IsBs.keep hS xs rest h3⟩
end
theorem IsBs.get {S:Nat→Prop} {w:World} : ∀ (ps:List OB) (c:List Value),IsBs S w ps c→∀ (i:Nat) p,ps[i]?=some p→∃ ks vs,IsB S w p ks vs∧∀ j u,(b7 p ks vs)[j]?=some u→c[i * 7 + j]?=some u
 | [],c,h,i,p,hi=>by simp at hi
 | q :: ps, c, h, i, p, hi => by
  simp only [IsBs] at h
  obtain ⟨ks,vs,rest,h1,h2,h3⟩:=h
  subst h1
  cases i with
  | zero =>
   simp at hi;subst hi
   refine ⟨ks,vs,h2,fun j u hj=>?_⟩
   rw [List.getElem?_append_left (by have:=(List.getElem?_eq_some_iff.1 hj).1;omega)]
   simpa using hj
  | succ i =>
   obtain ⟨ks',vs',h4,h5⟩:=IsBs.get ps rest h3 i p (by simpa using hi)
   refine ⟨ks',vs',h4,fun j u hj=>?_⟩
   have hl:(b7 q ks vs).length=7:=rfl
   rw [List.getElem?_append_right (by omega),hl,show (i + 1) * 7 + j - 7=i * 7 + j by omega]
   exact h5 j u hj
theorem IsB.slices {S:Nat→Prop} {w:World} {x:OB} {ks vs:Value} (h:IsB S w x ks vs):∃ ko kc vo vc,ks=.slice ko x.keys.length kc∧vs=.slice vo x.kids.length vc∧x.keys.length≤maxLen∧x.kids.length≤maxLen:=by
 cases x
 simp only [IsB] at h
 obtain ⟨⟨_,o,c,rfl,h1,h2,_⟩,cells,⟨_,o2,c2,rfl,h3,h4,_⟩,_⟩:=h
 exact ⟨_,_,_,_,rfl,rfl,Nat.le_trans h1 h2,Nat.le_trans h3 h4⟩
theorem IsB.key {S:Nat→Prop} {w:World} {x:OB} {ks vs:Value} (h:IsB S w x ks vs):(x.keys=[]∨∃ b i,(∃ n c,ks=.slice (some ⟨b,i,none⟩) n c)∧S b∧∀ j k,x.keys[j]?=some k→w.cell? ⟨b,i + j,none⟩=some (.string (bs k))):=by
 cases x
 simp only [IsB,OB.keys] at h ⊢
 obtain ⟨⟨_,o,c,rfl,h1,h2,h3⟩,_⟩:=h
 rcases h3 with h3 | ⟨b,i,rfl,h4,h5⟩
 ·exact .inl (List.eq_nil_of_length_eq_zero h3)
 ·refine .inr ⟨b,i,⟨_,_,rfl⟩,h4,fun j k hj=>h5 j _ ?_⟩
  unfold kvals
  rw [List.getElem?_map,hj];rfl
theorem IsB.kid {S:Nat→Prop} {w:World} {x:OB} {ks vs:Value} (h:IsB S w x ks vs):(x.kids=[]∨∃ b i,(∃ n c,vs=.slice (some ⟨b,i,none⟩) n c)∧S b∧∀ (j:Nat) p,x.kids[j]?=some p→∃ ks' vs',IsB S w p ks' vs'∧∀ (m:Nat) u,(b7 p ks' vs')[m]?=some u→w.cell? ⟨b,i + (j * 7 + m),none⟩=some u):=by
 cases x
 simp only [IsB,OB.kids] at h ⊢
 obtain ⟨_,cells,⟨hl,o,c,rfl,h1,h2,h3⟩,hI⟩:=h
 rcases h3 with h3 | ⟨b,i,rfl,h4,h5⟩
 ·exact .inl (List.eq_nil_of_length_eq_zero h3)
 ·refine .inr ⟨b,i,⟨_,_,rfl⟩,h4,fun j p hj=>?_⟩
  obtain ⟨ks',vs',h6,h7⟩:=IsBs.get _ _ hI j p hj
  exact ⟨ks',vs',h6,fun m u hm=>h5 _ _ (h7 m u hm)⟩
mutual
def bkB:OB→Nat
 | .mk _ _ _ _ t keys kids=>t.length + (keys.map fun k=>k.length + 1).sum + bkBs kids + 1
def bkBs:List OB→Nat
 | []=>0
 | x::xs=>bkB x + bkBs xs
end
mutual
def fwB:OB→Nat
 | .mk _ _ _ _ t keys kids=>1 + t.length / 16 + (keys.map fun k=>k.length / 16).sum + fwBs kids
def fwBs:List OB→Nat
 | []=>0
 | x::xs=>fwB x + fwBs xs
end
mutual
def lvB:OB→Nat
 | .mk _ _ _ _ _ _ kids=>lvBs kids + 1
def lvBs:List OB→Nat
 | []=>0
 | x::xs=>max (lvB x) (lvBs xs)
end
theorem bkBs_mem {x:OB} : ∀ {xs:List OB},x∈xs→bkB x≤bkBs xs
 | [],h=>by simp at h
 | y::ys,h=>by
  simp only [bkBs]
  rcases List.mem_cons.1 h with rfl | h
  ·omega
  ·have:=bkBs_mem h;omega
theorem fwBs_mem {x:OB} : ∀ {xs:List OB},x∈xs→fwB x≤fwBs xs
 | [],h=>by simp at h
 | y::ys,h=>by
  simp only [fwBs]
  rcases List.mem_cons.1 h with rfl | h
  ·omega
  ·have:=fwBs_mem h;omega
theorem lvBs_mem {x:OB} : ∀ {xs:List OB},x∈xs→lvB x≤lvBs xs
 | [],h=>by simp at h
 | y::ys,h=>by
  simp only [lvBs]
  rcases List.mem_cons.1 h with rfl | h
  ·omega
  ·have:=lvBs_mem h;omega
theorem fwBs_len:∀ (xs:List OB),xs.length≤fwBs xs
 | []=>by simp
 | y::ys=>by
  have h1:=fwBs_len ys
  have h2:1≤fwB y:=by cases y;simp only [fwB];omega
  simp only [fwBs,List.length_cons];omega
theorem bkBs_len:∀ (xs:List OB),xs.length≤bkBs xs
 | []=>by simp
 | y::ys=>by
  have h1:=bkBs_len ys
  have h2:1≤bkB y:=by cases y;simp only [bkB];omega
  simp only [bkBs,List.length_cons];omega
theorem fwBs_take:∀ {l:List OB} {i:Nat} {p:OB},l[i]?=some p→fwBs (l.take (i + 1))=fwBs (l.take i) + fwB p
 | [],i,p,h=>by simp at h
 | y::ys,0,p,h=>by simp at h;subst h;simp [fwBs]
 | y::ys,i + 1,p,h=>by
  have:=fwBs_take (l:=ys) (i:=i) (p:=p) (by simpa using h)
  simp only [List.take_succ_cons,fwBs,this];omega
theorem sum_mem {l:List Nat} {x:Nat} (h:x∈l):x≤l.sum:=by
 induction l with
 | nil=>simp at h
 | cons y ys ih =>
  rw [List.sum_cons]
  rcases List.mem_cons.1 h with rfl | h
  ·omega
  ·have:=ih h;omega
theorem fw_text {o:OB} {n:Nat} (h:fwB o≤n):o.t.length / 16 + 1≤n:=by cases o;simp only [fwB,OB.t] at *;omega
theorem fw_key {o:OB} {n:Nat} (h:fwB o≤n) {k:By} (hk:k∈o.keys):k.length / 16 + 1≤n:=by
 cases o
 simp only [fwB,OB.keys] at *
 have:=sum_mem (List.mem_map.2 ⟨k,hk,rfl⟩:k.length / 16∈List.map (fun k:By=>k.length / 16) _)
 omega
theorem fw_kids {o:OB} {n:Nat} (h:fwB o≤n):o.kids.length + 1≤n:=by
 cases o
 simp only [fwB,OB.kids] at *
 have:=fwBs_len ‹List OB›
 omega
theorem fw_kid {o p:OB} (h:p∈o.kids):fwB p≤fwB o:=by
 cases o
 simp only [fwB,OB.kids] at *
 have:=fwBs_mem h
 omega
theorem bk_text (o:OB):o.t.length + 1≤bkB o:=by cases o;simp only [bkB,OB.t];omega
theorem bk_kids (o:OB):o.kids.length + 1≤bkB o:=by
 cases o
 simp only [bkB,OB.kids]
 have:=bkBs_len ‹List OB›
 omega
theorem bk_kid {o p:OB} (h:p∈o.kids):bkB p + 1≤bkB o:=by
 cases o
 simp only [bkB,OB.kids] at *
 have:=bkBs_mem h
 omega
theorem map_len_sum (l:List By):l.length≤(l.map fun k=>k.length + 1).sum:=by
 induction l with
 | nil=>simp
 | cons y ys ih=>simp only [List.length_cons,List.map_cons,List.sum_cons];omega
theorem bk_keys (o:OB):o.keys.length + 1≤bkB o:=by
 cases o
 simp only [bkB,OB.keys]
 have:=map_len_sum ‹List By›
 omega
theorem bk_key {o:OB} {k:By} (hk:k∈o.keys):k.length + 2≤bkB o:=by
 cases o
 simp only [bkB,OB.keys] at *
 have:=sum_mem (List.mem_map.2 ⟨k,hk,rfl⟩:k.length + 1∈List.map (fun k:By=>k.length + 1) _)
 omega
theorem lv_kid {o p:OB} (h:p∈o.kids):lvB p + 1≤lvB o:=by
 cases o
 simp only [lvB,OB.kids] at *
 have:=lvBs_mem h
 omega
mutual
def Img:PO→OB→Prop
 | .null,o=>o.k=0
 | .bool b,o=>o.k=1∧o.i=(if b then 1 else 0)
 | .int n,o=>o.k=2∧o.i=n
 | .real x,o=>o.k=3∧o.r=x
 | .lit s,o=>o.k=4∧o.t=s
 | .hexl s,o=>o.k=5∧o.t=s
 | .name s,o=>o.k=6∧o.t=s
 | .arr ps,o=>o.k=7∧Imgs ps o.kids
 | .dict keys ps,o=>o.k=8∧o.keys=keys∧Imgs ps o.kids
 | .ref n g,o=>o.k=9∧o.i=n∧o.g=g
def Imgs:List PO→List OB→Prop
 | [],l=>l=[]
 | p::ps,l=>∃ o os,l=o::os∧Img p o∧Imgs ps os
end
theorem Imgs.len:∀ {ps:List PO} {l:List OB},Imgs ps l→ps.length=l.length
 | [],l,h=>by simp only [Imgs] at h;subst h;rfl
 | p::ps,l,h=>by
  simp only [Imgs] at h
  obtain ⟨o,os,rfl,_,h2⟩:=h
  simp [Imgs.len h2]
theorem Imgs.get:∀ {ps:List PO} {l:List OB},Imgs ps l→∀ (i:Nat) o,l[i]?=some o→∃ p,ps[i]?=some p∧Img p o
 | [],l,h,i,o,hi=>by simp only [Imgs] at h;subst h;simp at hi
 | p::ps,l,h,i,o,hi=>by
  simp only [Imgs] at h
  obtain ⟨o',os,rfl,h1,h2⟩:=h
  cases i with
  | zero=>simp at hi;subst hi;exact ⟨p,rfl,h1⟩
  | succ i=>simpa using Imgs.get h2 i o (by simpa using hi)
theorem Imgs.snoc:∀ {ps:List PO} {l:List OB} {p:PO} {o:OB},Imgs ps l→Img p o→Imgs (ps ++ [p]) (l ++ [o])
 | [],l,p,o,h,hp=>by simp only [Imgs] at h;subst h;simp only [List.nil_append,Imgs];exact ⟨o,[],rfl,hp,rfl⟩
 | q::ps,l,p,o,h,hp=>by
  simp only [Imgs,List.cons_append] at h ⊢
  obtain ⟨o',os,rfl,h1,h2⟩:=h
  exact ⟨o',os ++ [o],rfl,h1,Imgs.snoc h2 hp⟩
end Go.Proofs.YtfkecmlmnhbmoaaGreatDoor
namespace Go.Proofs.YtfkecmlmnhbmoaaGreatDoor
open Go Go.RowKit
open Go.Maps
def KeyAt (S:Nat→Prop) (w:World) (ko:Option Addr) (keys:List By):Prop:=∀ (j:Nat) k,keys[j]?=some k→∃ b i,ko=some ⟨b,i,none⟩∧S b∧w.cell? ⟨b,i + j,none⟩=some (.string (bs k))
def KidAt (S:Nat→Prop) (w:World) (vo:Option Addr) (kids:List OB):Prop:=∀ (j:Nat) p,kids[j]?=some p→∃ b i,vo=some ⟨b,i,none⟩∧S b∧∃ kso ksc vso vsc,IsB S w p (.slice kso p.keys.length ksc) (.slice vso p.kids.length vsc) ∧
 ∀ (m:Nat) u,(b7 p (.slice kso p.keys.length ksc) (.slice vso p.kids.length vsc))[m]?=some u→w.cell? ⟨b,i + j * 7 + m,none⟩=some u
theorem IsB.view {S:Nat→Prop} {w:World} {x:OB} {ks vs:Value} (h:IsB S w x ks vs):∃ ko kc vo vc,ks=.slice ko x.keys.length kc∧vs=.slice vo x.kids.length vc∧x.keys.length≤maxLen∧x.kids.length≤maxLen∧x.keys.length≤kc∧x.kids.length≤vc∧KeyAt S w ko x.keys∧KidAt S w vo x.kids:=by
 have hk:=h.key
 have hv:=h.kid
 cases x
 simp only [IsB] at h
 obtain ⟨⟨_,o,c,rfl,h1,h2,_⟩,cells,⟨_,o2,c2,rfl,h3,h4,_⟩,_⟩:=h
 simp only [OB.keys,OB.kids] at *
 refine ⟨_,_,_,_,rfl,rfl,Nat.le_trans h1 h2,Nat.le_trans h3 h4,h1,h3,?_,?_⟩
 ·intro j k hj
  rcases hk with rfl | ⟨b,i,⟨n,c',e⟩,h6,h7⟩
  ·simp at hj
  ·injection e with e1 e2 e3
   exact ⟨b,i,e1,h6,h7 j k hj⟩
 ·intro j p hj
  rcases hv with rfl | ⟨b,i,⟨n,c',e⟩,h6,h7⟩
  ·simp at hj
  ·injection e with e1 e2 e3
   obtain ⟨ks',vs',h8,h9⟩:=h7 j p hj
   obtain ⟨a1,a2,a3,a4,rfl,rfl,_⟩:=h8.slices
   exact ⟨b,i,e1,h6,a1,a2,a3,a4,h8,fun m u hm=>by rw [Nat.add_assoc];exact h9 m u hm⟩
theorem KeyAt.keep {S S':Nat→Prop} {w w':World} (hS:∀ k,S k→S' k∧w'.heap[k]?=w.heap[k]?) {ko:Option Addr} {keys:List By} (h:KeyAt S w ko keys):KeyAt S' w' ko keys:=fun j k hj=>by
 obtain ⟨b,i,h1,h2,h3⟩:=h j k hj
 exact ⟨b,i,h1,(hS b h2).1,(World.cell?_of_block (hS b h2).2).trans h3⟩
theorem KidAt.keep {S S':Nat→Prop} {w w':World} (hS:∀ k,S k→S' k∧w'.heap[k]?=w.heap[k]?) {ko:Option Addr} {kids:List OB} (h:KidAt S w ko kids):KidAt S' w' ko kids:=fun j p hj=>by
 obtain ⟨b,i,h1,h2,a1,a2,a3,a4,h3,h4⟩:=h j p hj
 exact ⟨b,i,h1,(hS b h2).1,a1,a2,a3,a4,IsB.keep hS _ _ _ h3,fun m u hm=>(World.cell?_of_block (hS b h2).2).trans (h4 m u hm)⟩
def ksum (l:List By):Nat:=(l.map fun k=>k.length / 16).sum
theorem ksum_take:∀ {l:List By} {i:Nat} {k:By},l[i]?=some k→ksum (l.take (i + 1))=ksum (l.take i) + k.length / 16
 | [],i,p,h=>by simp at h
 | y::ys,0,p,h=>by simp at h;subst h;simp [ksum]
 | y::ys,i + 1,p,h=>by
  have:=ksum_take (l:=ys) (i:=i) (k:=p) (by simpa using h)
  simp only [ksum,List.take_succ_cons,List.map_cons,List.sum_cons] at this ⊢;omega
theorem ksum_take_le:∀ (l:List By) (i:Nat),ksum (l.take i)≤ksum l
 | [],i=>by simp [ksum]
 | y::ys,0=>by simp [ksum]
 | y::ys,i + 1=>by have:=ksum_take_le ys i;simp only [ksum,List.take_succ_cons,List.map_cons,List.sum_cons] at this ⊢;omega
theorem ksum_bk:∀ (l:List By),ksum l≤(l.map fun k=>k.length + 1).sum
 | []=>by simp [ksum]
 | y::ys=>by have:=ksum_bk ys;simp only [ksum,List.map_cons,List.sum_cons] at this ⊢;omega
theorem fwB_eq (o:OB):fwB o=1 + o.t.length / 16 + ksum o.keys + fwBs o.kids:=by cases o;simp only [fwB,OB.t,OB.keys,OB.kids,ksum]
theorem bk_ksum (o:OB):ksum o.keys + o.t.length≤bkB o:=by
 cases o
 simp only [bkB,OB.keys,OB.t]
 have:=ksum_bk ‹List By›
 omega
def FwPost (w w':World) (c:Nat) (L:Int) (F:Nat) (e:Ending):Prop:=∃ (b:Bool) (L':Int),e=.returned (.bool b)∧w'.heap[c]?=some (.cells #[.int .i64 L'] 3 (0,0))∧w.grownBy w' (some c)∧(b=true→L'=L - F∧0≤L')
set_option maxRecDepth 100000 in
set_option maxHeartbeats 40000000 in
theorem few_any : ∀ (n : Nat) (o : OB), lvB o ≤ n → ∀ (S : Nat → Prop) (w : World) (ks vs : Value) (c : Nat) (L : Int), bkB o ≤ 1048576 → IsB S w o ks vs → (∀ k, S k → k < w.heap.size ∧ k ≠ c) → w.heap[c]? = some (.cells #[.int .i64 L] 3 (0, 0)) → 0 ≤ L → L ≤ 20000 →
  Calls Tryz.prog 17 #[obV o ks vs,.pointer (some ⟨c,0,none⟩)] w fun e w'=>FwPost w w' c L (fwB o) e:=by
 intro n
 induction n with
 | zero=>intro o hl;cases o;simp only [lvB] at hl;omega
 | succ n ih =>
  intro o hlv S w ks vs c L hbk hI hS hc hL0 hL1
  obtain ⟨ko,kc,vo,vc,rfl,rfl,hm1,hm2,hm3,hm4,hK,hV⟩:=hI.view
  have hfw:=fwB_eq o
  have hkb:=bk_ksum o
  have hkl:=bk_keys o
  have hvl:=bk_kids o
  have hkid:∀ p∈o.kids,lvB p≤n∧bkB p≤1048576:=fun p hp=>⟨by have:=lv_kid hp;omega,by have:=bk_kid hp;omega⟩
  unfold obV
  rw [hfw]
  obtain ⟨keys,hkeys⟩:∃ l,l=o.keys:=⟨_,rfl⟩
  obtain ⟨kids,hkids⟩:∃ l,l=o.kids:=⟨_,rfl⟩
  rw [←hkeys] at hK hkb hkl hm1 hm3 ⊢
  rw [←hkids] at hV hvl hm2 hm4 hkid ⊢
  have hzs:(bs o.t).size=o.t.length:=bs_size _
  rw [←hzs] at hkb ⊢
  generalize bs o.t=z at *
  generalize o.k=k1
  generalize o.i=k2
  generalize o.g=k3
  generalize o.r=k4
  obtain ⟨KN,hKN⟩:∃ N,N=keys.length:=⟨_,rfl⟩
  obtain ⟨VN,hVN⟩:∃ N,N=kids.length:=⟨_,rfl⟩
  rw [←hKN] at hkl hm1 hm3 ⊢
  rw [←hVN] at hvl hm2 hm4 ⊢
  have hKN2:KN≤1048576:=by omega
  have hVN2:VN≤1048576:=by omega
  have hg0:∀ o,w.grownBy (w.alloc o) (some c):=fun o=>gr_alloc (World.grownBy.refl w _) _
  have hlt:=(Array.getElem?_eq_some_iff.1 hc).1
  have hne:¬c=w.heap.size:=by omega
  have c0:w.cell? ⟨c,0,none⟩=some (.int .i64 L):=by simp [World.cell?,hc]
  have f0:w.frozen? ⟨c,0,none⟩=false:=by simp [World.frozen?,hc]
  have q0:(z.size:Int).tdiv 16=((z.size / 16:Nat):Int):=by rw [Int.tdiv_eq_ediv_of_nonneg (by omega)];rfl
  obtain ⟨m,hm⟩:∃ m,m=z.size / 16:=⟨_,rfl⟩
  have hml:m≤1048576:=by omega
  rw [←hm] at q0 ⊢
  have w1:IntKind.i64.wrap (1 + (m:Int))=1 + (m:Int):=IntWalk.i64_in _ (by omega)
  have w2:IntKind.i64.wrap (L - (1 + (m:Int)))=L - (1 + (m:Int)):=IntWalk.i64_in _ (by omega)
  have w3:IntKind.i64.wrap (m:Int)=(m:Int):=IntWalk.i64_in _ (by omega)
  obtain ⟨L1,hL1e⟩:∃ L1,L1=L - (1 + (m:Int)):=⟨_,rfl⟩
  have hks:ksum keys≤1048576:=by omega
  have Hg0:=Lib.hid hg0
  have Hc:=Lib.hid hc
  have Hih:=Lib.hid ih
  have HK:=Lib.hid hK
  have HV:=Lib.hid hV
  have HS:=Lib.hid hS
  have Hkid:=Lib.hid hkid
  have HL:=Lib.hid (And.intro hL1e (And.intro hL0 hL1))
  have HKN:=Lib.hid hKN
  have HVN:=Lib.hid hVN
  have Hks:=Lib.hid hks
  clear hm hc hg0 hzs hfw ih hK hV hS hkid hL1e hL0 hL1 hKN hVN hkb hks hkeys hkids hI hlv hbk
  go_enter Tryz.func17,Tryz.ntmps17
  go_wp2_with fail
  go_region
  go_wp2_with fail
  obtain ⟨W,hW⟩:∃ W,W=((w.setCell ⟨c,0,none⟩ (.int .i64 L1)).alloc (.cells #[.int .i64 k1,.int .i64 k2,.int .i64 k3,.float .f64 k4,.string z,.slice ko KN kc,.slice vo VN vc] 26)).drew:=⟨_,rfl⟩
  have hbW:W.heap[w.heap.size]?=some (.cells #[.int .i64 k1,.int .i64 k2,.int .i64 k3,.float .f64 k4,.string z,.slice ko KN kc,.slice vo VN vc] 26 (0,0)):=by
   rw [hW]
   have:=heap_alloc_new (w.setCell ⟨c,0,none⟩ (.int .i64 L1)) (.cells #[.int .i64 k1,.int .i64 k2,.int .i64 k3,.float .f64 k4,.string z,.slice ko KN kc,.slice vo VN vc] 26)
   rw [show (w.setCell ⟨c,0,none⟩ (.int .i64 L1)).heap.size=w.heap.size by simp] at this
   exact this
  have hcW:W.heap[c]?=some (.cells #[.int .i64 L1] 3 (0,0)):=by
   rw [hW]
   refine (Below.heap_alloc _ _ _ (by simpa using hlt)).trans ?_
   exact cells1_set Hc.out _
  have hGW:w.grownBy W (some c):=by rw [hW];exact gr_drew (gr_alloc (gr_set (World.grownBy.refl w _) _ _) _)
  rw [←HL.out.1]
  rw [←hW]
  clear hW
  have HB:=Lib.hid hbW
  have HC:=Lib.hid hcW
  have HG:=Lib.hid hGW
  clear hbW hcW hGW c0 f0 hlt
  go_loopg [21] KN (fun g t21 wr=>∃ (i:Nat) (L2:Int),t21=.int .i64 (i:Nat)∧i≤KN∧g=KN - i∧L2=L1 - ksum (keys.take i)∧wr.heap[c]?=some (.cells #[.int .i64 L2] 3 (0,0))∧wr.heap[w.heap.size]?=some (.cells #[.int .i64 k1,.int .i64 k2,.int .i64 k3,.float .f64 k4,.string z,.slice ko KN kc,.slice vo VN vc] 26 (0,0))∧w.grownBy wr (some c))
  case atStart=>exact ⟨0,_,rfl,Nat.zero_le _,rfl,by simp [ksum],HC.out,HB.out,HG.out⟩
  case round =>
   clear HB HC HG
   obtain ⟨i,L2,rfl,hi,hg,hL2,hcW,hbW,hGW⟩:=hrel
   obtain ⟨y0,y1,y2,y3,y4,y5,y6,yf⟩:=cells7 hbW
   have d0:wr.cell? ⟨c,0,none⟩=some (.int .i64 L2):=by simp [World.cell?,hcW]
   have f0:wr.frozen? ⟨c,0,none⟩=false:=by simp [World.frozen?,hcW]
   have hkt:=ksum_take_le keys i
   have hL2a:L2≤20000:=by have:=HL.out;omega
   have hL2b:-3000000≤L2:=by have:=HL.out;have:=Hks.out;omega
   have HB:=Lib.hid hbW
   have HC:=Lib.hid hcW
   have HG:=Lib.hid hGW
   have Hg:=Lib.hid hg
   have HL2:=Lib.hid hL2
   clear hbW hcW hGW hg hL2 hkt
   by_cases hin:i < KN
   ·have hnm:(i:Int) < KN:=by omega
    have hwi:IntKind.i64.wrap ((i:Int) + 1)=(i:Int) + 1:=IntWalk.i64_in _ (by omega)
    obtain ⟨k,hk⟩:∃ k,keys[i]?=some k:=⟨_,List.getElem?_eq_getElem (by rw [←HKN.out];exact hin)⟩
    obtain ⟨b0,i0,hko,hSb,hkc⟩:=HK.out i k hk
    subst hko
    have e0:wr.cell? ⟨b0,i0 + i,none⟩=some (.string (bs k)):=(World.cell?_of_block (HG.out.block b0 (HS.out b0 hSb).1 (by have:=(HS.out b0 hSb).2;simpa using this))).trans hkc
    have hks9:=ksum_take hk
    have hkl9:k.length / 16≤1048576:=by
     have:=ksum_take_le keys (i + 1)
     have:=Hks.out
     omega
    have hzk:(bs k).size=k.length:=bs_size k
    rw [←hzk] at hks9 hkl9
    generalize bs k=zk at *
    obtain ⟨mk,hmk⟩:∃ m,m=zk.size / 16:=⟨_,rfl⟩
    rw [←hmk] at hks9 hkl9
    have q1:(zk.size:Int).tdiv 16=(mk:Int):=by rw [Int.tdiv_eq_ediv_of_nonneg (by omega),hmk];rfl
    have w4:IntKind.i64.wrap (L2 - (mk:Int))=L2 - (mk:Int):=IntWalk.i64_in _ (by omega)
    have w5:IntKind.i64.wrap (mk:Int)=(mk:Int):=IntWalk.i64_in _ (by omega)
    have Hks9:=Lib.hid hks9
    clear hmk hk hSb hkc hks9 hzk
    go_wp2_with fail
    go_roundg (KN - (i + 1))
    case measure=>rw [Hg.out];omega
    case rel =>
     refine ⟨i + 1,_,by simp,by omega,rfl,?_,cells1_set HC.out _,?_,gr_set HG.out _ _⟩
     ·rw [Hks9.out,HL2.out];omega
     ·exact (Below.heap_setCell _ _ _ _ (by simpa using fun e=>hne e.symm)).trans HB.out
   ·obtain rfl:i=KN:=by omega
    have hnm:¬(i:Int) < i:=by omega
    have htk:keys.take i=keys:=List.take_of_length_le (by rw [HKN.out];exact Nat.le_refl _)
    replace HL2:=Lib.hid (show L2=L1 - ksum keys by rw [HL2.out,htk])
    clear htk
    by_cases hneg:L2 < 0
    ·go_wp2_with fail
     go_ret
     exact ⟨false,_,rfl,HC.out,HG.out,fun h=>by cases h⟩
    ·have HL20:=Lib.hid (show 0≤L2∧L2≤20000 from ⟨by omega,hL2a⟩)
     clear y0 y1 y2 y3 y4 y5 y6 yf d0 f0
     obtain ⟨y0,y1,y2,y3,y4,y5,y6,yf⟩:=cells7 HB.out
     have d0:wr.cell? ⟨c,0,none⟩=some (.int .i64 L2):=by have:=HC.out;simp [World.cell?,this]
     go_wp2_with fail
     go_loopg [7] VN (fun g t7 wr=>∃ (j:Nat) (L3:Int),t7=.int .i64 (j:Nat)∧j≤VN∧g=VN - j∧L3=L2 - fwBs (kids.take j)∧0≤L3∧wr.heap[c]?=some (.cells #[.int .i64 L3] 3 (0,0))∧wr.heap[w.heap.size]?=some (.cells #[.int .i64 k1,.int .i64 k2,.int .i64 k3,.float .f64 k4,.string z,.slice ko i kc,.slice vo VN vc] 26 (0,0))∧w.grownBy wr (some c))
     case atStart=>exact ⟨0,_,rfl,Nat.zero_le _,rfl,by simp [fwBs],HL20.out.1,HC.out,HB.out,HG.out⟩
     case round =>
      clear HB HC HG y0 y1 y2 y3 y4 y5 y6 yf d0
      obtain ⟨j,L3,rfl,hj,hg,hL3,hL3p,hcW,hbW,hGW⟩:=hrel
      obtain ⟨y0,y1,y2,y3,y4,y5,y6,yf⟩:=cells7 hbW
      have HB:=Lib.hid hbW
      have HC:=Lib.hid hcW
      have HG:=Lib.hid hGW
      have Hg:=Lib.hid hg
      have HL3:=Lib.hid hL3
      have HL3b:=Lib.hid (show L3≤20000 by have:=HL20.out;omega)
      clear hbW hcW hGW hg hL3
      by_cases hjn:j < VN
      ·have hnm2:(j:Int) < VN:=by omega
       have hwi:IntKind.i64.wrap ((j:Int) + 1)=(j:Int) + 1:=IntWalk.i64_in _ (by omega)
       obtain ⟨p,hp⟩:∃ p,kids[j]?=some p:=⟨_,List.getElem?_eq_getElem (by rw [←HVN.out];exact hjn)⟩
       obtain ⟨b0,i0,hvo,hSb,kso,ksc,vso,vsc,hIp,hcp⟩:=HV.out j p hp
       subst hvo
       have hblk:∀ k,S k→wr.heap[k]?=w.heap[k]?:=fun k hk=>HG.out.block k (HS.out k hk).1 (by have:=(HS.out k hk).2;simpa using this)
       have hcc:∀ m u,(b7 p (.slice kso p.keys.length ksc) (.slice vso p.kids.length vsc))[m]?=some u→wr.cell? ⟨b0,i0 + j * 7 + m,none⟩=some u:=fun m u hm=>(World.cell?_of_block (hblk b0 hSb)).trans (hcp m u hm)
       have e0:wr.cell? ⟨b0,i0 + j * 7,none⟩=_:=hcc 0 _ rfl
       have e1:=hcc 1 _ rfl
       have e2:=hcc 2 _ rfl
       have e3:=hcc 3 _ rfl
       have e4:=hcc 4 _ rfl
       have e5:=hcc 5 _ rfl
       have e6:=hcc 6 _ rfl
       have hcall:=Hih.out p (Hkid.out p (List.mem_of_getElem? hp)).1 S wr _ _ c L3 (Hkid.out p (List.mem_of_getElem? hp)).2 (IsB.keep (fun k hk=>⟨hk,hblk k hk⟩) _ _ _ hIp) (fun k hk=>⟨Nat.lt_of_lt_of_le (HS.out k hk).1 HG.out.size,(HS.out k hk).2⟩) HC.out hL3p HL3b.out
       have hft:=fwBs_take hp
       unfold obV at hcall
       have Hcall:=Lib.hid hcall
       have Hft:=Lib.hid hft
       clear hcall hft hcc hblk hIp hcp hSb hp
       generalize p.k=p1 at *
       generalize p.i=p2 at *
       generalize p.g=p3 at *
       generalize p.r=p4 at *
       generalize bs p.t=p5 at *
       generalize p.keys.length=p6 at *
       generalize p.kids.length=p7 at *
       go_wp2_with fail
       refine Hcall.out.mono ?_
       rintro e w2 ⟨b,L4,rfl,hc4,hg4,hb4⟩
       have hbk4:=(hg4.block _ (Array.getElem?_eq_some_iff.1 HB.out).1 (by simpa using fun e=>hne e.symm)).trans HB.out
       have Hc4:=Lib.hid hc4
       have Hg4:=Lib.hid (HG.out.trans hg4)
       have Hb4:=Lib.hid hb4
       have Hbk4:=Lib.hid hbk4
       clear hc4 hg4 hb4 hbk4
       cases b
       ·go_wp2_with fail
        go_ret
        exact ⟨false,_,rfl,Hc4.out,Hg4.out,fun h=>by cases h⟩
       ·go_wp2_with fail
        go_roundg (VN - (j + 1))
        case measure=>rw [Hg.out];omega
        case rel =>
         obtain ⟨q1,q2⟩:=Hb4.out (by trivial)
         exact ⟨j + 1,_,by simp,by omega,rfl,by rw [q1,Hft.out,HL3.out];omega,q2,Hc4.out,Hbk4.out,Hg4.out⟩
      ·obtain rfl:j=VN:=by omega
       have hnm2:¬(j:Int) < j:=by omega
       have htk:kids.take j=kids:=List.take_of_length_le (by rw [HVN.out];exact Nat.le_refl _)
       replace HL3:=Lib.hid (show L3=L2 - fwBs kids by rw [HL3.out,htk])
       clear htk
       go_wp2_with fail
       go_ret
       exact ⟨true,_,rfl,HC.out,HG.out,fun _=>⟨by have h1:=HL3.out;have h2:=HL2.out;have h3:=HL.out.1;omega,hL3p⟩⟩
end Go.Proofs.YtfkecmlmnhbmoaaGreatDoor
namespace Go.Proofs.YtfkecmlmnhbmoaaGreatDoor
open Go Go.RowKit
set_option maxRecDepth 100000 in
set_option maxHeartbeats 40000000 in
theorem rd24_ret {w5:World} {B:Nat} {v0 v1 v2 v3 v4 v5 v6 u3 u4:Value} {tmps:Array Value} {R:Ending→World→Prop} (h2:tmps.getD 2 undef=.pointer (some ⟨B,0,none⟩)) (h3:tmps.getD 3 undef=u3) (h4:tmps.getD 4 undef=u4)
  (hz:w5.heap[B]?=some (.cells #[v0,v1,v2,v3,v4,v5,v6] 30 (0,0))) (hR:R (.returned (.tuple #[.agg #[v0,v1,v2,v3,v4,v5,v6],u3,u4])) w5):bodyPost Tryz.prog Tryz.f24 R Exit.ret { tmps:=tmps,defers:=[] } w5:=by
 obtain ⟨y0,y1,y2,y3,y4,y5,y6,yf⟩:=cells7 hz
 simp only [Array.getD_eq_getD_getElem?] at h2 h3 h4
 exact bodyPost_ret (v:=.tuple #[.agg #[v0,v1,v2,v3,v4,v5,v6],u3,u4]) (by simp [results,Tryz.results24,go_sem,h2,h3,h4,y0,y1,y2,y3,y4,y5,y6]) rfl hR
set_option maxRecDepth 100000 in
set_option maxHeartbeats 40000000 in
theorem rd10_ret {w5:World} {B:Nat} {v0 v1 v2 v3 v4 v5 v6 u3:Value} {tmps:Array Value} {R:Ending→World→Prop} (h2:tmps.getD 2 undef=.pointer (some ⟨B,0,none⟩)) (h3:tmps.getD 3 undef=u3)
  (hz:w5.heap[B]?=some (.cells #[v0,v1,v2,v3,v4,v5,v6] 30 (0,0))) (hR:R (.returned (.tuple #[.agg #[v0,v1,v2,v3,v4,v5,v6],u3])) w5):bodyPost Tryz.prog Tryz.f10 R Exit.ret { tmps:=tmps,defers:=[] } w5:=by
 obtain ⟨y0,y1,y2,y3,y4,y5,y6,yf⟩:=cells7 hz
 simp only [Array.getD_eq_getD_getElem?] at h2 h3
 exact bodyPost_ret (v:=.tuple #[.agg #[v0,v1,v2,v3,v4,v5,v6],u3]) (by simp [results,Tryz.results10,go_sem,h2,h3,y0,y1,y2,y3,y4,y5,y6]) rfl hR
def Rd24 (w w':World) (l r:By) (x:PV) (e:Ending):Prop:=∃ (ks vs:Value) (S:Nat→Prop) (p:By),e=.returned (.tuple #[valOf x ks vs,.int .i64 p.length,.int .i64 0])∧l=p ++ r∧IsV S w' x ks vs∧(∀ k,S k→w.heap.size≤k∧k < w'.heap.size)∧w.grownBy w' none
set_option maxRecDepth 100000 in
set_option maxHeartbeats 40000000 in
theorem read24_any (pf:By→Nat) (W0 w:World) (hI:Init W0) (hpf:PFC pf W0) (hE:Env W0 w) (l:By) (hl:l.length≤1000000000) (x:PV) (r:By) (o2:Bool) (hrd:rdV pf 50 l false=some (x,r,o2)) :
  Calls Tryz.prog 24 #[.string (bs l)] w fun e w'=>Rd24 w w' l r x e:=by
 have hV:=valC_all pf W0 hI hpf 50
 have HE:=Lib.hid hE;clear hE
 have HV:=Lib.hid hV;clear hV
 clear hI hpf
 have hR0:RdAt ((w.alloc (.cells #[.int .i64 0,.int .i64 0,.int .i64 0,.float .f64 0,.string ⟨#[]⟩,.slice none 0 0,.slice none 0 0] 30 (0,0))).alloc (.cells #[.string (bs l),.int .i64 0,.int .i64 0,.int .i64 0,.bool false,.bool false] 57 (0,0))) (w.heap.size + 1) (bs l) [] l 0 0 false false:=⟨by simp [bs],(alloc2 w w.heap.size rfl _ _).2⟩
 have hz0:=(alloc2 w w.heap.size rfl (.cells #[.int .i64 0,.int .i64 0,.int .i64 0,.float .f64 0,.string ⟨#[]⟩,.slice none 0 0,.slice none 0 0] 30 (0,0)) (.cells #[.string (bs l),.int .i64 0,.int .i64 0,.int .i64 0,.bool false,.bool false] 57 (0,0))).1
 have hg0:=gr_alloc (gr_alloc (World.grownBy.refl w none) (.cells #[.int .i64 0,.int .i64 0,.int .i64 0,.float .f64 0,.string ⟨#[]⟩,.slice none 0 0,.slice none 0 0] 30 (0,0))) (.cells #[.string (bs l),.int .i64 0,.int .i64 0,.int .i64 0,.bool false,.bool false] 57 (0,0))
 have HR0:=Lib.hid hR0;clear hR0
 have HZ0:=Lib.hid hz0;clear hz0
 have HG0:=Lib.hid hg0;clear hg0
 go_enter Tryz.func24,Tryz.ntmps24
 go_wp2_with fail
 refine (HV.out _ (w.heap.size + 1) (bs l) [] l false false (by exact HE.out.grown0 HG0.out) (by have:=HE.out.1;omega) (by rw [bs_size];exact hl) (by exact HR0.out) (by omega)).mono ?_
 intro e w1 hP
 rw [hrd] at hP
 clear hrd
 obtain ⟨ks2,vs2,S2,rfl,hV3,hS3,⟨p3,hR3⟩,hg3⟩:=hP
 obtain ⟨⟨ko2,kn2,kc2,hks⟩,⟨vo2,vn2,vc2,hvs⟩⟩:=IsV.slices hV3
 subst hks
 subst hvs
 unfold valOf
 have HV3:=Lib.hid hV3;clear hV3
 have HS3:=Lib.hid hS3;clear hS3
 have hz3:=keep hg3 HZ0.out (by simp)
 have hG3:=gr_down hg3 HG0.out (by omega)
 obtain ⟨c0,c1,c2,c3,c4,c5,cf⟩:=hR3.cells
 obtain ⟨z0,z1,z2,z3,z4,z5,z6,zf⟩:=zb_cells hz3
 have hlt3:w.heap.size + 1 < w1.heap.size:=hR3.lt
 have hlt2:w.heap.size < w1.heap.size:=by omega
 have HR3:=Lib.hid hR3;clear hR3
 have HZ3:=Lib.hid hz3;clear hz3
 have HG3:=Lib.hid hG3;clear hG3
 have Hg3:=Lib.hid hg3;clear hg3
 clear HR0 HZ0 HG0
 go_wp2_with fail
 go_region
 go_wp2_with fail
 refine rd24_ret (B:=w.heap.size) (u3:=.int .i64 (p3.length)) (u4:=.int .i64 (0)) (v0:=.int .i64 (pvKind x)) (v1:=.int .i64 (pvInt x)) (v2:=.int .i64 (pvGen x)) (v3:=.float .f64 (pvReal x)) (v4:=.string ⟨(pvText x).toArray⟩) (v5:=.slice ko2 kn2 kc2) (v6:=.slice vo2 vn2 vc2) (w5:=((set7 w1 w.heap.size _ _ _ _ _ _ _).alloc _).drew) ?_ ?_ ?_ ?_ ?_
 ·rfl
 ·rfl
 ·rfl
 ·exact set7_ad HZ3.out hlt2 _ _ _ _ _ _ _ _
 refine ⟨.slice ko2 kn2 kc2,.slice vo2 vn2 vc2,S2,p3,rfl,?_,IsV.keep (fun k hk=>⟨hk,?_⟩) _ _ _ HV3.out,fun k hk=>?_,set7_adg HG3.out (Nat.le_refl _) _ _ _ _ _ _ _ _⟩
 ·have:=HR3.out.1;rw [bs_list] at this;exact this
 ·have:=HS3.out k hk
  simp at this
  exact set7_ado (by omega) (by omega) _ _ _ _ _ _ _ _
 ·have:=HS3.out k hk
  simp at this
  exact ⟨by omega,by rw [set7_ads];omega⟩
def RdA (w w':World) (x:PV) (e:Ending):Prop:=∃ (ks vs:Value) (S:Nat→Prop),e=.returned (.tuple #[valOf x ks vs,.int .i64 0])∧IsV S w' x ks vs∧(∀ k,S k→w.heap.size≤k∧k < w'.heap.size)∧w.grownBy w' none
set_option maxRecDepth 100000 in
set_option maxHeartbeats 40000000 in
theorem readall_any (pf:By→Nat) (W0 w:World) (hI:Init W0) (hpf:PFC pf W0) (hE:Env W0 w) (l:By) (hl:l.length≤1000000000) (x:PV) (r:By) (o2:Bool) (hrd:rdV pf 50 l false=some (x,r,o2)) (hr:(passM false r false).1=[]) :
  Calls Tryz.prog 10 #[.string (bs l)] w fun e w'=>RdA w w' x e:=by
 have h24:=fun (w2:World) (hg:w.grownBy w2 none)=>read24_any pf W0 w2 hI hpf (hE.grown0 hg) l hl x r o2 hrd
 have H24:=Lib.hid h24
 have hw0:=hE.1
 have hzl:(bs l).size=l.length:=bs_size l
 have Hr:=Lib.hid hr
 clear h24 hI hpf hE hrd hr
 go_enter Tryz.func10,Tryz.ntmps10
 go_wp2_with fail
 have hz0:(w.alloc Z30).heap[w.heap.size]?=some Z30:=heap_alloc_new _ _
 have hg0:w.grownBy (w.alloc Z30) none:=gr_alloc (World.grownBy.refl _ _) _
 have hs0:(w.alloc Z30).heap.size=w.heap.size + 1:=by simp
 unfold Z30 at hz0 hg0 hs0
 refine (H24.out _ hg0).mono ?_
 generalize w.alloc _=w0 at *
 rintro e w1 ⟨ks,vs,S,p,rfl,hlp,hIV,hS,hg1⟩
 obtain ⟨⟨ko2,kn2,kc2,rfl⟩,⟨vo2,vn2,vc2,rfl⟩⟩:=IsV.slices hIV
 unfold valOf
 obtain ⟨o4,ho4⟩:∃ o4:Obj,o4=.cells #[.int .i64 (pvKind x),.int .i64 (pvInt x),.int .i64 (pvGen x),.float .f64 (pvReal x),.string ⟨(pvText x).toArray⟩,.slice ko2 kn2 kc2,.slice vo2 vn2 vc2] 30 (0,0):=⟨_,rfl⟩
 obtain ⟨b1,b2⟩:=alloc2 w1 w1.heap.size rfl o4 (.cells #[.string (bs l),.int .i64 p.length,.int .i64 0,.int .i64 0,.bool false,.bool false] 57 (0,0))
 obtain ⟨Wb,hWb⟩:∃ Wb,Wb=(w1.alloc o4).alloc (.cells #[.string (bs l),.int .i64 p.length,.int .i64 0,.int .i64 0,.bool false,.bool false] 57 (0,0)):=⟨_,rfl⟩
 have hgb:w1.grownBy Wb none:=by rw [hWb];exact gr_alloc (gr_alloc (World.grownBy.refl _ _) _) _
 have hsb:Wb.heap.size=w1.heap.size + 2:=by rw [hWb];simp
 rw [←hWb] at b1 b2
 have hz1:=(hg1.block _ (by omega) (by simp)).trans hz0
 have hzb:=(hgb.block _ (by have:=hg1.size;omega) (by simp)).trans hz1
 have hpass:=pass_any Wb (w1.heap.size + 1) (bs l) p r 0 0 false false ⟨by rw [bs_list];exact hlp,b2⟩ (by rw [bs_size];omega)
 rw [Hr.out] at hpass
 have Hpass:=Lib.hid hpass
 have Hzb:=Lib.hid hzb
 have Hb1:=Lib.hid b1
 have Hgb:=Lib.hid hgb
 have Hg1:=Lib.hid hg1
 have HIV:=Lib.hid hIV
 have HS:=Lib.hid hS
 have Hs1:=Lib.hid (And.intro hg1.size (And.intro hsb hs0))
 have Hg0:=Lib.hid hg0
 clear hpass hzb b1 b2 hgb hg1 hIV hS hz0 hz1 hg0 hsb hs0 hlp
 rw [ho4] at hWb Hb1
 clear ho4
 go_upto_region 5 with (fail)
 rw [←hWb]
 clear hWb
 go_wp2_with fail
 refine Hpass.out.mono ?_
 rintro e w2 ⟨rfl,⟨p',hR2⟩,hg2⟩
 obtain ⟨c0,c1,c2,c3,c4,c5,cf⟩:=hR2.cells
 have hpl:p'.length=(bs l).size:=by have:=hR2.1;rw [bs_list] at this;rw [bs_size,this];simp
 have hnm:¬((p'.length:Int) < (bs l).size):=by omega
 have s2:=hg2.size
 have hss:=Hs1.out
 have hz2:=(hg2.block _ (by omega) (by simp;omega)).trans Hzb.out
 have hb2:=(hg2.block _ (by omega) (by simp)).trans Hb1.out
 have hG2:w.grownBy w2 none:=gr_noneThen (Hg0.out.trans (Hg1.out.trans Hgb.out)) hg2 (fun k hk=>by injection hk with hk;omega)
 have hI2:IsV S w2 x (.slice ko2 kn2 kc2) (.slice vo2 vn2 vc2):=IsV.keep (S':=S) (fun k hk=>⟨hk,by
  have:=HS.out k hk
  exact (hg2.block k (by omega) (by simp;omega)).trans (Hgb.out.block k this.2 (by simp))⟩) _ _ _ HIV.out
 obtain ⟨z0,z1,z2,z3,z4,z5,z6,zf⟩:=cells7 hz2
 obtain ⟨y0,y1,y2,y3,y4,y5,y6,yf⟩:=cells7 hb2
 have hlt2:w.heap.size < w2.heap.size:=by omega
 have hlt3:w1.heap.size < w2.heap.size:=by omega
 have Hz2:=Lib.hid hz2
 have HG2:=Lib.hid hG2
 have HI2:=Lib.hid hI2
 have hS2:∀ k,S k→w.heap.size + 1≤k∧k < w2.heap.size:=fun k hk=>by have:=HS.out k hk;omega
 have HS2:=Lib.hid hS2
 clear Hpass hR2 hg2 hz2 hb2 hG2 hI2 hS2 hpl hss s2 Hzb Hb1 HIV HS Hs1 Hg0 Hg1 Hgb
 go_wp2_with fail
 refine rd10_ret (B:=w.heap.size) (u3:=.int .i64 (0)) (v0:=.int .i64 (pvKind x)) (v1:=.int .i64 (pvInt x)) (v2:=.int .i64 (pvGen x)) (v3:=.float .f64 (pvReal x)) (v4:=.string ⟨(pvText x).toArray⟩) (v5:=.slice ko2 kn2 kc2) (v6:=.slice vo2 vn2 vc2) (w5:=set7 w2 w.heap.size _ _ _ _ _ _ _) rfl rfl (set7_at Hz2.out _ _ _ _ _ _ _) ?_
 refine ⟨.slice ko2 kn2 kc2,.slice vo2 vn2 vc2,S,rfl,IsV.keep (S':=S) (fun k hk=>⟨hk,set7_other _ _ _ _ _ _ _ _ _ _ (by have:=HS2.out k hk;omega)⟩) _ _ _ HI2.out,fun k hk=>?_,set7_gr HG2.out (Nat.le_refl _) _ _ _ _ _ _ _⟩
 have:=HS2.out k hk
 rw [set7_size]
 omega
end Go.Proofs.YtfkecmlmnhbmoaaGreatDoor
