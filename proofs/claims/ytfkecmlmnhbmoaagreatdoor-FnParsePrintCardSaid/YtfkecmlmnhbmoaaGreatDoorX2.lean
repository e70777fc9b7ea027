/- Parts P1 A0 A1 A2. -/
import Derived.Test.YtfkecmlmnhbmoaaGreatDoorX1
import Derived.PlainAid
import Derived.Deep.AppendLies
set_option linter.unusedVariables false
set_option linter.unusedSimpArgs false
set_option maxRecDepth 100000
set_option maxHeartbeats 40000000
namespace Go.Proofs.YtfkecmlmnhbmoaaGreatDoor
abbrev By:=List UInt8
def a0h (n:Int):Bool:=n==0||n==9||n==10||n==12||n==13||n==32
def a0U (n:Int):Bool:=n==40||n==41||n==60||n==62||n==91||n==93||n==123||n==125||n==47||n==37
def a0Y (n:Int):Bool:=!a0h n&&!a0U n
def a0s (n:Int):Bool:=decide (32≤n)&&decide (n≤126)
def a0F (n:Int):Bool:=decide (48≤n)&&decide (n≤57)
def a0w (n:Int):Int:=if 48≤n∧n≤57 then n-48 else if 97≤n∧n≤102 then n-87 else if 65≤n∧n≤70 then n-55 else -1
theorem a1N (c:UInt8):0≤(c.toNat:Int)∧(c.toNat:Int)≤255:=by
 have:=c.toNat_lt;omega
def a0j:Bool→By→Bool→By×Bool
 | _,[],o=>([],o)
 | true,c::l,o=>if (c.toNat:Int)==10||(c.toNat:Int)==13 then a0j false l o else a0j true l (o||!a0s (c.toNat:Int))
 | false,c::l,o=>if a0h (c.toNat:Int) then a0j false l o else if (c.toNat:Int)==37 then a0j true l o else (c::l,o)
def a0t:By→Bool→Bool
 | [],o=>o
 | c::l,o=>if a0Y (c.toNat:Int) then a0t l (o||!a0s (c.toNat:Int)) else o||((c.toNat:Int)==123||(c.toNat:Int)==125||(c.toNat:Int)==41)
def a0c (l:By):By:=l.takeWhile fun c=>a0Y (c.toNat:Int)
def a0k (l:By):By:=l.dropWhile fun c=>a0Y (c.toNat:Int)
def octM:Nat→By→Int→Int×By
 | 0,l,out=>(out,l)
 | _+1,[],out=>(out,[])
 | n+1,c::l,out=>if 48≤(c.toNat:Int)∧(c.toNat:Int)≤55 then octM n l (8*out+((c.toNat:Int)-48)) else (out,c::l)
def a3N:By→Int×Bool×By
 | []=>(0,false,[])
 | d::l=>if (d.toNat:Int)==10 then (0,false,l) else (0,false,d::l)
def escF:By→Int×Bool×By
 | []=>(0,false,[])
 | c::l =>
  if (c.toNat:Int)==110 then (10,true,l) else if (c.toNat:Int)==114 then (13,true,l) else if (c.toNat:Int)==116 then (9,true,l)
  else if (c.toNat:Int)==98 then (8,true,l) else if (c.toNat:Int)==102 then (12,true,l) else if (c.toNat:Int)==10 then (0,false,l)
  else if (c.toNat:Int)==13 then a3N l
  else if (c.toNat:Int)<48∨55<(c.toNat:Int) then ((c.toNat:Int),true,l)
  else ((octM 2 l ((c.toNat:Int)-48)).1%256,true,(octM 2 l ((c.toNat:Int)-48)).2)
open Go Go.RowKit
@[go_sem] theorem b2U {P:Program}{w:World}{a:Addr}{m:Mode}(k:FloatKind)(n:Nat):(store a (.float k n) m).run P w=stored P w a (.float k n) m:=run_store P w a _ m rfl
section
variable {P:Program} {ops:Array Oper} {md:Region.Mode} {C:World→Prop}
def a6j (P:Program)(md:Region.Mode)(ops:Array Oper)(C:World→Prop)(n:Nat)(L:Array Bool→Act→Prop):Nat→Array Bool→Act→Prop
 | 0,listed,a=>L listed a
 | f+1,listed,a=>Region.ready md ops listed≠[]∧∀i∈Region.ready md ops listed,i<n∧qOp P ops C i (a6j P md ops C n L f (listed.setIfInBounds i true)) a
theorem a6m {n g:Nat}{L:Array Bool→Act→Prop}{Q':Exit→Act→World→Prop}(hL:∀listed a w,C w→L listed a→wpAny P md ops Q' g listed a w) :
  ∀(f:Nat) (listed:Array Bool) (a:Act) (w:World),C w→a6j P md ops C n L f listed a→wpAny P md ops Q' (f+g) listed a w:=by
 intro f
 induction f with
 | zero=>intro listed a w hw h;rw[Nat.zero_add];exact hL _ _ _ hw h
 | succ f ih =>
  intro listed a w hw h;rw[show f+1+g=(f+g)+1 by omega];exact⟨fun h0=>absurd h0 h.1,fun i hi=>wpOp_of_qOp hw (fun a' w' hw' h'=>ih _ a' w' hw' h') (h.2 i hi).2⟩
theorem a7x {n i:Nat}{oi:Oper}{v:Value}{L:Array Bool→Act→Prop}(hi:ops[i]?=some oi)(hsel:∀(j:Nat) (o:Oper) cs b,ops[j]?=some o→o.op≠.select cs b)
  (hs:Region.sinkB md ops n=true)(hc:Region.chainB md ops n=true)(hn:n<ops.size)(hin:i<n)
  (hdone:∀listed a,L listed a→∀j∈Region.ready md ops listed,n≤j) :
  ∀(f:Nat) (listed:Array Bool) (a:Act),HeadInv md ops n listed →
   (∀j oj,ops[j]?=some oj→j≠i→listed.getD j true=false→(∀e∈oj.after,Region.binds md e=true→e.on≠i)→oi.apart ops oj=true) →
   i∈Region.ready md ops listed→YieldsIn P ops C oi v a →
   a6j P md ops C n L f (listed.setIfInBounds i true) (a.put oi.dst v)→a6j P md ops C n L (f+1) listed a:=by
 intro f
 induction f with
 | zero =>
  intro listed a inv _ hr hy H;have hun:=(mem_ready.1 hr).1;refine⟨List.ne_nil_of_mem hr,fun j hj=>?_⟩;have hjn:j<n:=Nat.lt_of_not_le fun h=>tail_waits hs hc hn inv _ i rfl hin hun j h hj
  by_cases hji:j=i
  ·subst hji;exact⟨hjn,hy.qOp hi H⟩
  ·have h3:=hdone _ _ H j (ready_mono hj hji)
   omega
 | succ f ih =>
  intro listed a inv hfree hr hy H;have hun:=(mem_ready.1 hr).1;refine⟨List.ne_nil_of_mem hr,fun j hj=>?_⟩;have hjn:j<n:=Nat.lt_of_not_le fun h=>tail_waits hs hc hn inv _ i rfl hin hun j h hj
  by_cases hji:j=i
  ·subst hji;exact⟨hjn,hy.qOp hi H⟩
  ·obtain⟨hjun,oj,hoj,hall⟩:=mem_ready.1 hj
   have hnot:∀e∈oj.after,Region.binds md e=true→e.on≠i:=fun e he hb heq=>by
    have h1:=hall e he hb;rw[heq,getD_both hun]at h1
    cases h1
   have hap:=hfree j oj hoj hji hjun hnot;have h2:=qOp_put hoj hap (fun cs b=>hsel i oi cs b hi) (fun cs b=>hsel j oj cs b hoj) hy (H.2 j (ready_mono hj hji)).2
   have hfree':∀k ok,ops[k]?=some ok→k≠i→(listed.setIfInBounds j true).getD k true=false →
     (∀e∈ok.after,Region.binds md e=true→e.on≠i)→oi.apart ops ok=true:=fun k ok hk hki hunk hno=>by
    by_cases hjk:j=k
    ·subst hjk;exact hfree j ok hk hki hjun hno
    ·rw[getD_set_ne true hjk]at hunk;exact hfree k ok hk hki hunk hno
   refine⟨hjn,qOp_mono (fun a' h3=>ih (listed.setIfInBounds j true) a' (inv.set hj hjn) hfree' (ready_mono hr (Ne.symm hji)) h3.1 ?_) h2⟩;rw[Array.setIfInBounds_comm _ _ hji];exact h3.2
theorem a9l {n g:Nat}{Lq:Act→Prop}(hsel:Region.noSelect ops=true)(hs:Region.sinkB md ops n=true)(hc:Region.chainB md ops n=true)(hn:n<ops.size) :
  ∀(l:List Oper) (k:Nat) (listed:Array Bool) (a:Act),(∀j,j<l.length→l[j]?=ops[k+j]?)→k+l.length=n→HeadInv md ops n listed →
  Region.lexHead md ops g l.length k listed=true→wpQuiet P ops C Lq l a →
  a6j P md ops C n (fun listed' a'=>Region.seqB md ops g n listed'=true∧Lq a') l.length listed a:=by
 intro l
 induction l with
 | nil =>
  intro k listed a _ hk _ hB h;obtain rfl:k=n:=by simpa using hk
  exact⟨by simpa[Region.lexHead] using hB,h⟩
 | cons o l ih =>
  intro k listed a hl hk inv hB h;simp only[List.length_cons]at hk;have h0:ops[k]?=some o:=by simpa using (hl 0 (by simp)).symm
  simp only[List.length_cons,Region.lexHead,Bool.and_eq_true]at hB;obtain⟨⟨hr,hf⟩,hB'⟩:=hB;have hkn:k<n:=by omega
  have hr':k∈Region.ready md ops listed:=by simpa using hr
  have hst:qOp P ops C k (wpQuiet P ops C Lq l) a:=by unfold qOp;simp only[h0];exact h
  obtain⟨v,hy,hK⟩:=yieldsIn_of_qOp h0 hst
  exact a7x h0 (Region.noSelect_spec hsel) hs hc hn hkn (fun listed' a' hL=>seqB_ready hL.1) l.length listed a inv (Region.free_spec h0 hf) hr' hy
   (ih (k+1) _ _ (fun j hj=>by have:=hl (j+1) (by simp;omega);simpa[Nat.add_assoc,Nat.add_comm 1 j] using this) (by omega) (inv.set hr' hkn) hB' hK)
theorem a0r {id:Nat}{Q:Exit→Act→World→Prop}{a:Act}{w:World}{l:List Oper}(n:Nat)(hm:P.follows .mixedOrders=true)(hB:Region.lexTailB .any l.toArray n=true)
  (h:wpQuiet P l.toArray (fun w'=>∃m,w'=w.drewN m) (fun a'=>∀w',(∃m,w'=w.drewN m)→wpList P l.toArray Q (l.drop n) a' w') (l.take n) a):(Code.region id l.toArray true).wp P Q a w:=by
 simp only[Region.lexTailB,Bool.and_eq_true,decide_eq_true_eq]at hB;obtain⟨⟨⟨⟨hsel,hn⟩,hs⟩,hc⟩,hlex⟩:=hB;have hn':n<l.length:=by simpa using hn
 have htl:(l.take n).length=n:=by simp;omega
 have hdl:(l.drop n).length=l.toArray.size-n:=by simp
 have inv0:HeadInv .any l.toArray n (Array.replicate l.toArray.size false) :=
  ⟨by simp,fun j oj _ hl=>(by rw[getD_replicate_false]at hl;cases hl),fun t _ ht=>getD_in (by simpa using ht) (getD_replicate_false _ _)⟩
 have H:=a9l (md:=.any) (g:=l.toArray.size-n) (C:=fun w'=>∃m,w'=w.drewN m) hsel hs hc hn (l.take n) 0 _ a (fun j hj=>by
  have hj':j<n:=by rw[htl]at hj;exact hj
  simp[hj']) (by simpa using htl) inv0 (by rw[htl];exact hlex) h
 refine wp_region_any hm ?_
 have h4:=a6m (Q':=Q) (g:=l.toArray.size-n) (fun listed a' w' hw' hL=>by
  have h5:=wpAny_of_seq (md:=.any) (Q':=Q) (l.drop n) n listed a' w' (fun j=>by simp[List.getElem?_drop]) (by rw[hdl];exact hL.1) (hL.2 w' hw')
  rwa [hdl]at h5) _ _ _ { w with drawn:=w.drawn+1 } ⟨1,rfl⟩ H
 rw[htl,show n+(l.toArray.size-n)=l.toArray.size by omega]at h4;exact h4
end
theorem a1L {P:Program}{f:FuncId}{args:Array Value}{w:World}{k n:Nat}{v:Value}
  (h:Calls P f args (w.drewN (k+n)) fun e w'=>e=.returned v∧w'=w.drewN (k+n)):Calls P f args (w.drewN (k+n)) fun e w''=>e=.returned v∧∃m,w''=w.drewN (k+m) :=
 h.mono fun _ _ ⟨he,hm⟩=>⟨he,n,hm⟩
theorem a3b {P:Program}{f:FuncId}{args:Array Value}{w:World}{k n:Nat}{v:Value}
  (h:Calls P f args (w.drewN (k+n)) fun e w'=>e=.returned v∧∃m,w'=(w.drewN (k+n)).drewN m):Calls P f args (w.drewN (k+n)) fun e w''=>e=.returned v∧∃m,w''=w.drewN (k+m) :=
 h.mono fun _ _ ⟨he,m,hm⟩=>⟨he,n+m,by rw[hm,World.drewN_drewN,Nat.add_assoc]⟩
theorem a8r (n:Int)(w:World):Calls Tryz.prog 42 #[.int .u8 n] w fun e w'=>e=.returned (.bool (a0h n))∧w'=w:=by
 go_enter Tryz.func42,Tryz.ntmps42
 go_wp2
 all_goals (go_ret;exact⟨by simp_all[a0h],rfl⟩)
theorem a7D (n:Int)(w:World):Calls Tryz.prog 52 #[.int .u8 n] w fun e w'=>e=.returned (.bool (a0U n))∧w'=w:=by
 go_enter Tryz.func52,Tryz.ntmps52
 go_wp2
 all_goals (go_ret;exact⟨by simp_all[a0U],rfl⟩)
theorem b2x (n:Int)(w:World):Calls Tryz.prog 43 #[.int .u8 n] w fun e w'=>e=.returned (.bool (a0s n))∧w'=w:=by
 by_cases h1:32≤n
 all_goals
  go_enter Tryz.func43,Tryz.ntmps43
  go_wp2
  all_goals (go_ret;exact⟨by simp_all[a0s]<;>omega,rfl⟩)
theorem a5y (n:Int)(w:World):Calls Tryz.prog 75 #[.int .u8 n] w fun e w'=>e=.returned (.bool (a0F n))∧w'=w:=by
 by_cases h1:48≤n
 all_goals
  go_enter Tryz.func75,Tryz.ntmps75
  go_wp2
  all_goals (go_ret;exact⟨by simp_all[a0F]<;>omega,rfl⟩)
theorem a9c (n:Int)(w:World):Calls Tryz.prog 76 #[.int .u8 n] w fun e w'=>e=.returned (.bool (a0Y n))∧w'=w:=by
 cases h1:a0h n
 all_goals
  go_enter Tryz.func76,Tryz.ntmps76;go_wp2_with (first|(go_at_call 42;refine(a8r _ _).mono ?_;rintro e w'⟨rfl,rfl⟩)|(go_at_call 52;refine(a7D _ _).mono ?_;rintro e w'⟨rfl,rfl⟩))
  all_goals (go_ret;exact⟨by simp_all[a0Y],rfl⟩)
theorem a3K {n:Int}{v:Bool}(h:a0h n=v)(w:World):Calls Tryz.prog 42 #[.int .u8 n] w fun e w'=>e=.returned (.bool v)∧w'=w:=h▸a8r n w
theorem a9t {n:Int}{v:Bool}(h:a0U n=v)(w:World):Calls Tryz.prog 52 #[.int .u8 n] w fun e w'=>e=.returned (.bool v)∧w'=w:=h▸a7D n w
theorem a9O {n:Int}{v:Bool}(h:a0s n=v)(w:World):Calls Tryz.prog 43 #[.int .u8 n] w fun e w'=>e=.returned (.bool v)∧w'=w:=h▸b2x n w
theorem a1b {n:Int}{v:Bool}(h:a0F n=v)(w:World):Calls Tryz.prog 75 #[.int .u8 n] w fun e w'=>e=.returned (.bool v)∧w'=w:=h▸a5y n w
theorem a6H {n:Int}{v:Bool}(h:a0Y n=v)(w:World):Calls Tryz.prog 76 #[.int .u8 n] w fun e w'=>e=.returned (.bool v)∧w'=w:=h▸a9c n w
theorem qaw {n:Int}{v:Bool}{k:Nat}(w:World)(h:a0h n=v:=by first|assumption|exact rfl):Calls Tryz.prog 42 #[.int .u8 n] (w.drewN k) fun e w''=>e=.returned (.bool v)∧∃m,w''=w.drewN m:=Calls.quiet_of_same (a3K h _)
theorem qbw {n:Int}{v:Bool}{k m:Nat}(w:World)(h:a0h n=v:=by first|assumption|exact rfl):Calls Tryz.prog 42 #[.int .u8 n] (w.drewN (k+m)) fun e w''=>e=.returned (.bool v)∧∃m,w''=w.drewN (k+m):=a1L (a3K h _)
theorem qap {n:Int}{v:Bool}{k:Nat}(w:World)(h:a0s n=v:=by first|assumption|exact rfl):Calls Tryz.prog 43 #[.int .u8 n] (w.drewN k) fun e w''=>e=.returned (.bool v)∧∃m,w''=w.drewN m:=Calls.quiet_of_same (a9O h _)
theorem qbp {n:Int}{v:Bool}{k m:Nat}(w:World)(h:a0s n=v:=by first|assumption|exact rfl):Calls Tryz.prog 43 #[.int .u8 n] (w.drewN (k+m)) fun e w''=>e=.returned (.bool v)∧∃m,w''=w.drewN (k+m):=a1L (a9O h _)
theorem qad {n:Int}{v:Bool}{k:Nat}(w:World)(h:a0U n=v:=by first|assumption|exact rfl):Calls Tryz.prog 52 #[.int .u8 n] (w.drewN k) fun e w''=>e=.returned (.bool v)∧∃m,w''=w.drewN m:=Calls.quiet_of_same (a9t h _)
theorem qbd {n:Int}{v:Bool}{k m:Nat}(w:World)(h:a0U n=v:=by first|assumption|exact rfl):Calls Tryz.prog 52 #[.int .u8 n] (w.drewN (k+m)) fun e w''=>e=.returned (.bool v)∧∃m,w''=w.drewN (k+m):=a1L (a9t h _)
theorem qar {n:Int}{v:Bool}{k:Nat}(w:World)(h:a0Y n=v:=by first|assumption|exact rfl):Calls Tryz.prog 76 #[.int .u8 n] (w.drewN k) fun e w''=>e=.returned (.bool v)∧∃m,w''=w.drewN m:=Calls.quiet_of_same (a6H h _)
theorem qbr {n:Int}{v:Bool}{k m:Nat}(w:World)(h:a0Y n=v:=by first|assumption|exact rfl):Calls Tryz.prog 76 #[.int .u8 n] (w.drewN (k+m)) fun e w''=>e=.returned (.bool v)∧∃m,w''=w.drewN (k+m):=a1L (a6H h _)
theorem b6O (n:Int)(h0:0≤n)(h1:n≤255)(w:World):Calls Tryz.prog 59 #[.int .u8 n] w fun e w'=>e=.returned (.int .i64 (a0w n))∧w'=w:=by
 by_cases hd:48≤n∧n≤57
 ·have e1:a0F n=true:=by simp[a0F,hd]
  have e2:a0w n=n-48:=by simp[a0w,hd]
  go_enter Tryz.func59,Tryz.ntmps59;go_wp2_with (go_at_call 75;refine(a5y _ _).mono ?_;rintro e w'⟨rfl,rfl⟩)
  go_ret;exact⟨by simp[e2],rfl⟩
 ·have e1:a0F n=false:=by simp[a0F];omega
  have hd':n<48∨57<n:=by omega
  go_enter Tryz.func59,Tryz.ntmps59;go_wp2_with (go_at_call 75;refine(a5y _ _).mono ?_;rintro e w'⟨rfl,rfl⟩)
  all_goals (go_ret;exact⟨by unfold a0w;(repeat' split)<;>simp<;>omega,rfl⟩)
def RdAt (w:World)(b:Nat)(s:ByteArray)(p l:By)(bad deep:Int)(odd ends:Bool):Prop :=
 s.data.toList=p++l∧w.heap[b]?=some (.cells #[.string s,.int .i64 p.length,.int .i64 bad,.int .i64 deep,.bool odd,.bool ends] 57 (0,0))
section
variable {w:World} {b:Nat} {s:ByteArray} {p l:By} {bad deep:Int} {odd ends:Bool}
theorem RdAt.cells (h:RdAt w b s p l bad deep odd ends):w.cell? ⟨b,0,none⟩=some (.string s)∧w.cell? ⟨b,1,none⟩=some (.int .i64 p.length)∧w.cell? ⟨b,2,none⟩=some (.int .i64 bad)∧w.cell? ⟨b,3,none⟩=some (.int .i64 deep) ∧
  w.cell? ⟨b,4,none⟩=some (.bool odd)∧w.cell? ⟨b,5,none⟩=some (.bool ends)∧(∀i,w.frozen? ⟨b,i,none⟩=false):=by
 obtain⟨_,h⟩:=h;simp[World.cell?,World.frozen?,h]
theorem RdAt.size (h:RdAt w b s p l bad deep odd ends):s.size=p.length+l.length:=by
 have h1:=congrArg List.length h.1;simp at h1;simpa using h1
theorem RdAt.lt (h:RdAt w b s p l bad deep odd ends):b<w.heap.size:=(Array.getElem?_eq_some_iff.1 h.2).1
theorem RdAt.of_heap {w':World}(h:RdAt w b s p l bad deep odd ends)(e:w'.heap[b]?=w.heap[b]?):RdAt w' b s p l bad deep odd ends:=⟨h.1,e.trans h.2⟩
theorem RdAt.head {c:UInt8}(h:RdAt w b s p (c::l) bad deep odd ends):∃hk:p.length<s.size,s[p.length]'hk=c:=by
 have h1:=h.size;simp at h1;refine⟨by omega,?_⟩;have h2:s.data.toList[p.length]?=some c:=by rw[h.1];simp
 have h3:s.data[p.length]?=some c:=by simpa using h2
 obtain⟨hh,h4⟩:=Array.getElem?_eq_some_iff.1 h3;exact h4
theorem RdAt.set1 {c:UInt8}(h:RdAt w b s p (c::l) bad deep odd ends):RdAt (w.setCell ⟨b,1,none⟩ (.int .i64 (p.length+1))) b s (p++[c]) l bad deep odd ends:=by
 refine⟨by rw[h.1];simp,?_⟩;simp[World.setCell,Array.getElem?_modify,h.2]
theorem RdAt.set4 (h:RdAt w b s p l bad deep odd ends)(o:Bool):RdAt (w.setCell ⟨b,4,none⟩ (.bool o)) b s p l bad deep o ends:=by
 refine⟨h.1,?_⟩;simp[World.setCell,Array.getElem?_modify,h.2]
theorem RdAt.drewN (h:RdAt w b s p l bad deep odd ends)(n:Nat):RdAt (w.drewN n) b s p l bad deep odd ends:=h
end
theorem a0e {w wr:World}{b:Nat}(h:w.grownBy wr (some b))(i:Nat)(v:Value):w.grownBy (wr.setCell ⟨b,i,none⟩ v) (some b) :=
 ⟨h.os,h.tape,h.output,by simpa using h.size,fun k hk hkb=>(Below.heap_setCell _ _ _ _ (by simpa using hkb)).trans (h.block k hk hkb)⟩
theorem a0b {w wr:World}{r:Option Nat}(h:w.grownBy wr r)(n:Nat):w.grownBy (wr.drewN n) r:=⟨h.os,h.tape,h.output,h.size,h.block⟩
theorem a0d {w wr:World}{r:Option Nat}(h:w.grownBy wr r):w.grownBy wr.drew r:=⟨h.os,h.tape,h.output,h.size,h.block⟩
theorem a0a {w wr:World}{r:Option Nat}(h:w.grownBy wr r)(o:Obj):w.grownBy (wr.alloc o) r :=
 ⟨h.os,h.tape,h.output,by have:=h.size;simp;omega,fun k hk hkb=>(Below.heap_alloc _ _ _ (by have:=h.size;omega)).trans (h.block k hk hkb)⟩
theorem a0y (w : World)(b : Nat)(s : ByteArray)(p l : By)(bad deep : Int)(odd ends : Bool)(hR : RdAt w b s p l bad deep odd ends)(hs : s.size ≤ 140737488351240) :
  Calls Tryz.prog 25 #[.pointer (some ⟨b,0,none⟩)] w fun e w'=>e=.returned (.tuple #[])∧(∃p',RdAt w' b s p' (a0j false l odd).1 bad deep (a0j false l odd).2 ends)∧w.grownBy w' (some b):=by
 have HR:=xhd hR;clear hR;go_enter Tryz.func25,Tryz.ntmps25;go_wp2_with fail
 go_loopg [] l.length (fun g wr=>∃p' l' o',g=l'.length∧RdAt wr b s p' l' bad deep o' ends∧a0j false l' o'=a0j false l odd∧w.grownBy wr (some b))
 case atStart=>exact⟨p,l,odd,rfl,HR.out,rfl,xgr _ _⟩
 case round =>
  obtain⟨p',l',o',hg,hR',hP,hG⟩:=hrel;obtain⟨c0,c1,c2,c3,c4,c5,cf⟩:=hR'.cells;have hsz:=hR'.size;obtain⟨HP,HR',HG,Hg⟩:=xh4 hP hR' hG hg;clear hP hR' hG hg
  cases l' with
  | nil =>
   have hlt:¬p'.length<s.size:=by simp at hsz;omega
   clear hsz;go_wp2_with fail
   go_quiet (first|(go_at_call 42;with_reducible first|exact qaw _|exact qbw _)|(go_at_call 43;with_reducible first|exact qap _|exact qbp _));go_wp2_with fail
   go_end0;refine⟨rfl,?_,(by repeat (first|exact HG.out|apply a0e|apply a0b|apply a0d|apply a0a))⟩;rw[←HP.out];exact⟨p',HR'.out⟩
  | cons c l2 =>
   obtain⟨hlt,hc⟩:=HR'.out.head;clear hsz;have hcr:=a1N c
   cases h1:a0h (c.toNat:Int)
   ·by_cases h2 : (c.toNat : Int) = 37
    ·have hb2 : ((c.toNat : Int) == 37) = true := by simp[h2]
     have H2:=xhd h2;clear h2;go_wp2_with fail
     go_quiet (first|(go_at_call 42;with_reducible first|exact qaw _|exact qbw _)|(go_at_call 43;with_reducible first|exact qap _|exact qbp _));go_wp2_with fail
     go_quiet (first|(go_at_call 42;with_reducible first|exact qaw _|exact qbw _)|(go_at_call 43;with_reducible first|exact qap _|exact qbp _));go_wp2_with fail
     go_quiet (first|(go_at_call 42;with_reducible first|exact qaw _|exact qbw _)|(go_at_call 43;with_reducible first|exact qap _|exact qbp _));go_wp2_with fail
     have h37:a0j true (c::l2) o'=a0j false (c::l2) o':=by
      have e:(c.toNat:Int)=37:=H2.out;simp[a0j,e,a0h,a0s]
     have H37:=xhd h37;clear h37 c0 c1 c2 c3 c4 c5 cf hlt hc hcr hb2 h1
     go_loopg [] (l2.length+1) (fun g wi=>∃p2 l3 o3,g=l3.length∧RdAt wi b s p2 l3 bad deep o3 ends∧a0j true l3 o3=a0j false l odd∧w.grownBy wi (some b)∧(l3=c::l2∨l3.length<(c::l2).length))
     case atStart=>exact⟨p',c::l2,o',rfl,HR'.out,H37.out.trans HP.out,(by repeat (first|exact HG.out|apply a0e|apply a0b|apply a0d|apply a0a)),.inl rfl⟩
     case round =>
      clear HR' HP HG H37;obtain⟨p2,l3,o3,hg2,hR2,hP2,hG2,hL2⟩:=hrel;obtain⟨c0,c1,c2,c3,c4,c5,cf⟩:=hR2.cells;have hsz:=hR2.size;obtain⟨HR,HP,HG,HL,Hg2⟩:=xh5 hR2 hP2 hG2 hL2 hg2;clear hR2 hP2 hG2 hL2 hg2
      cases l3 with
      | nil =>
       have hlt:¬p2.length<s.size:=by simp at hsz;omega
       have hd:decide ((p2.length:Int)<(s.size:Int))=false:=by simpa using hlt
       clear hsz;go_wp2_with fail
       go_quiet (first|(go_at_call 42;with_reducible first|exact qaw _|exact qbw _)|(go_at_call 43;with_reducible first|exact qap _|exact qbp _));go_wp2_with fail
       go_roundg 0
       case measure=>rw[Hg.out];simp
       case rel=>exact⟨p2,[],o3,rfl,HR.out,by rw[←HP.out];simp[a0j],(by repeat (first|exact HG.out|apply a0e|apply a0b|apply a0d|apply a0a))⟩
      | cons d l4 =>
       obtain⟨hlt,hc⟩:=HR.out.head;clear hsz;have hd:decide ((p2.length:Int)<(s.size:Int))=true:=by simpa using hlt
       have hdr:=a1N d
       have key:((((d.toNat:Int) != 10)=false∨((d.toNat:Int) != 10)=true∧((d.toNat:Int) != 13)=false)∧Hid (a0h (d.toNat:Int)=true∧((d.toNat:Int)==10||(d.toNat:Int)==13)=true∧l4.length+1<(c::l2).length))∨(((d.toNat:Int) != 10)=true∧((d.toNat:Int) != 13)=true∧Hid (((d.toNat:Int)==10||(d.toNat:Int)==13)=false)):=by
        by_cases e:(d.toNat:Int)=10∨(d.toNat:Int)=13
        ·left
         refine⟨?_,?_,?_,?_⟩
         ·rcases e with e|e<;>simp[e]
         ·rcases e with e|e<;>simp[e,a0h]
         ·rcases e with e|e<;>simp[e]
         ·rcases HL.out with e2|e2
          ·exfalso
           have e3:(c.toNat:Int)=37:=H2.out;have e4:d=c:=by injection e2
           rw[e4,e3]at e;omega
          ·simpa using e2
        ·right
         have n1:(d.toNat:Int)≠10:=fun h=>e (.inl h);have n2:(d.toNat:Int)≠13:=fun h=>e (.inr h);refine⟨by simpa using n1,by simpa using n2,?_⟩
         show ((d.toNat:Int)==10||(d.toNat:Int)==13)=false
         simp[n1,n2]
       rcases key with⟨h10,hk⟩|⟨h10,h13,hk⟩
       ·rcases h10 with h10|⟨h10,h13⟩
        all_goals
         go_wp2_with fail
         go_quiet (first|(go_at_call 42;with_reducible first|exact qaw _|exact qbw _)|(go_at_call 43;with_reducible first|exact qap _|exact qbp _));go_wp2_with fail
         go_roundg (l4.length+1)
         case measure=>rw[Hg.out];exact hk.out.2.2
         case rel=>exact⟨p2,d::l4,o3,rfl,HR.out,by rw[←HP.out];have:=hk.out;simp[a0j,this.1,this.2.1],(by repeat (first|exact HG.out|apply a0e|apply a0b|apply a0d|apply a0a))⟩
       ·cases o3
        ·cases hpl:a0s (d.toNat:Int)
         all_goals
          go_wp2_with fail
          go_quiet (first|(go_at_call 42;with_reducible first|exact qaw _|exact qbw _)|(go_at_call 43;with_reducible first|exact qap _|exact qbp _));go_wp2_with fail
          (refine a0r 18 (by kernel_rfl) (by kernel_rfl) ?_;simp only[List.take_succ_cons,List.take_zero,List.drop_succ_cons,List.drop_zero];(repeat (go_big_quiet_step (first|(go_at_call 42;with_reducible first|exact qaw _|exact qbw _)|(go_at_call 43;with_reducible first|exact qap _|exact qbp _))));refine wpQuiet_nil ?_;intro _ hwt;obtain⟨nt,hwt'⟩:=hwt;subst hwt';go_wp2_with fail)
          go_roundg l4.length
          case measure=>rw[Hg2.out];simp
          case rel =>
           refine⟨p2++[d],l4,_,rfl,(HR.out.set4 _).set1,?_,(by repeat (first|exact HG.out|apply a0e|apply a0b|apply a0d|apply a0a)),.inr ?_⟩
           ·rw[←HP.out];simp[a0j,hk.out,hpl]
           ·rcases HL.out with e2|e2
            ·rw[←e2];simp
            ·exact Nat.lt_of_succ_lt (by simpa using e2)
        ·go_wp2_with fail
         go_quiet (first|(go_at_call 42;with_reducible first|exact qaw _|exact qbw _)|(go_at_call 43;with_reducible first|exact qap _|exact qbp _));go_wp2_with fail
         (refine a0r 18 (by kernel_rfl) (by kernel_rfl) ?_;simp only[List.take_succ_cons,List.take_zero,List.drop_succ_cons,List.drop_zero];(repeat (go_big_quiet_step (first|(go_at_call 42;with_reducible first|exact qaw _|exact qbw _)|(go_at_call 43;with_reducible first|exact qap _|exact qbp _))));refine wpQuiet_nil ?_;intro _ hwt;obtain⟨nt,hwt'⟩:=hwt;subst hwt';go_wp2_with fail)
         go_roundg l4.length
         case measure=>rw[Hg2.out];simp
         case rel =>
          refine⟨p2++[d],l4,true,rfl,(HR.out.set4 _).set1,?_,(by repeat (first|exact HG.out|apply a0e|apply a0b|apply a0d|apply a0a)),.inr ?_⟩
          ·rw[←HP.out];simp[a0j,hk.out]
          ·rcases HL.out with e2|e2
           ·rw[←e2];simp
           ·exact Nat.lt_of_succ_lt (by simpa using e2)
    ·have hb2:((c.toNat:Int)==37)=false:=by simp[h2]
     clear h2;go_wp2_with fail
     go_quiet (first|(go_at_call 42;with_reducible first|exact qaw _|exact qbw _)|(go_at_call 43;with_reducible first|exact qap _|exact qbp _));go_wp2_with fail
     go_quiet (first|(go_at_call 42;with_reducible first|exact qaw _|exact qbw _)|(go_at_call 43;with_reducible first|exact qap _|exact qbp _));go_wp2_with fail
     go_quiet (first|(go_at_call 42;with_reducible first|exact qaw _|exact qbw _)|(go_at_call 43;with_reducible first|exact qap _|exact qbp _));go_wp2_with fail
     refine bodyPost_ret (results_none rfl _ _ _) rfl ?_;refine⟨rfl,?_,(by repeat (first|exact HG.out|apply a0e|apply a0b|apply a0d|apply a0a))⟩;rw[←HP.out];have:a0j false (c::l2) o'=(c::l2,o'):=by simp[a0j,h1,hb2]
     rw[this];exact⟨p',HR'.out⟩
   ·go_wp2_with fail
    go_quiet (first|(go_at_call 42;with_reducible first|exact qaw _|exact qbw _)|(go_at_call 43;with_reducible first|exact qap _|exact qbp _));go_wp2_with fail
    go_quiet (first|(go_at_call 42;with_reducible first|exact qaw _|exact qbw _)|(go_at_call 43;with_reducible first|exact qap _|exact qbp _));go_wp2_with fail
    go_roundg l2.length
    case measure=>rw[Hg.out];simp
    case rel =>
     refine⟨p'++[c],l2,o',rfl,?_,?_,?_⟩
     ·exact HR'.out.set1
     ·rw[←HP.out];simp[a0j,h1]
     ·exact(by repeat (first|exact HG.out|apply a0e|apply a0b|apply a0d|apply a0a))
end Go.Proofs.YtfkecmlmnhbmoaaGreatDoor
