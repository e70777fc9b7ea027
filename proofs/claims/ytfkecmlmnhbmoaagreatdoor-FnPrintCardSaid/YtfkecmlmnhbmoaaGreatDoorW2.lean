/- Parts P1 A0 A1 A2. -/
import Derived.Test.YtfkecmlmnhbmoaaGreatDoorW1
import Derived.PlainAid
import Derived.Deep.AppendLies
set_option linter.unusedVariables false
set_option linter.unusedSimpArgs false
set_option maxRecDepth 100000
set_option maxHeartbeats 40000000
namespace Go.Proofs.YtfkecmlmnhbmoaaGreatDoor
abbrev By:=List UInt8
def isWhite (n:Int):Bool:=n==0||n==9||n==10||n==12||n==13||n==32
def isDelim (n:Int):Bool:=n==40||n==41||n==60||n==62||n==91||n==93||n==123||n==125||n==47||n==37
def isReg (n:Int):Bool:=!isWhite n&&!isDelim n
def isPlain (n:Int):Bool:=decide (32≤n)&&decide (n≤126)
def isDig (n:Int):Bool:=decide (48≤n)&&decide (n≤57)
def hexVal (n:Int):Int:=if 48≤n∧n≤57 then n-48 else if 97≤n∧n≤102 then n-87 else if 65≤n∧n≤70 then n-55 else -1
theorem bi_range (c:UInt8):0≤(c.toNat:Int)∧(c.toNat:Int)≤255:=by
 have:=c.toNat_lt;omega
def passM:Bool→By→Bool→By×Bool
 | _,[],o=>([],o)
 | true,c::l,o=>if (c.toNat:Int)==10||(c.toNat:Int)==13 then passM false l o else passM true l (o||!isPlain (c.toNat:Int))
 | false,c::l,o=>if isWhite (c.toNat:Int) then passM false l o else if (c.toNat:Int)==37 then passM true l o else (c::l,o)
def wordO:By→Bool→Bool
 | [],o=>o
 | c::l,o=>if isReg (c.toNat:Int) then wordO l (o||!isPlain (c.toNat:Int)) else o||((c.toNat:Int)==123||(c.toNat:Int)==125||(c.toNat:Int)==41)
def wordT (l:By):By:=l.takeWhile fun c=>isReg (c.toNat:Int)
def wordR (l:By):By:=l.dropWhile fun c=>isReg (c.toNat:Int)
def octM:Nat→By→Int→Int×By
 | 0,l,out=>(out,l)
 | _+1,[],out=>(out,[])
 | n+1,c::l,out=>if 48≤(c.toNat:Int)∧(c.toNat:Int)≤55 then octM n l (8*out+((c.toNat:Int)-48)) else (out,c::l)
def esc13:By→Int×Bool×By
 | []=>(0,false,[])
 | d::l=>if (d.toNat:Int)==10 then (0,false,l) else (0,false,d::l)
def escF:By→Int×Bool×By
 | []=>(0,false,[])
 | c::l =>
  if (c.toNat:Int)==110 then (10,true,l) else if (c.toNat:Int)==114 then (13,true,l) else if (c.toNat:Int)==116 then (9,true,l)
  else if (c.toNat:Int)==98 then (8,true,l) else if (c.toNat:Int)==102 then (12,true,l) else if (c.toNat:Int)==10 then (0,false,l)
  else if (c.toNat:Int)==13 then esc13 l
  else if (c.toNat:Int)<48∨55<(c.toNat:Int) then ((c.toNat:Int),true,l)
  else ((octM 2 l ((c.toNat:Int)-48)).1%256,true,(octM 2 l ((c.toNat:Int)-48)).2)
open Go Go.RowKit
@[go_sem] theorem run_store_float {P:Program}{w:World}{a:Addr}{m:Mode}(k:FloatKind)(n:Nat):(store a (.float k n) m).run P w=stored P w a (.float k n) m:=run_store P w a _ m rfl
section
variable {P:Program} {ops:Array Oper} {md:Region.Mode} {C:World→Prop}
def wpHeadQ (P:Program)(md:Region.Mode)(ops:Array Oper)(C:World→Prop)(n:Nat)(L:Array Bool→Act→Prop):Nat→Array Bool→Act→Prop
 | 0,listed,a=>L listed a
 | f+1,listed,a=>Region.ready md ops listed≠[]∧∀i∈Region.ready md ops listed,i<n∧qOp P ops C i (wpHeadQ P md ops C n L f (listed.setIfInBounds i true)) a
theorem wpAny_of_headQ {n g:Nat}{L:Array Bool→Act→Prop}{Q':Exit→Act→World→Prop}(hL:∀listed a w,C w→L listed a→wpAny P md ops Q' g listed a w) :
  ∀(f:Nat) (listed:Array Bool) (a:Act) (w:World),C w→wpHeadQ P md ops C n L f listed a→wpAny P md ops Q' (f+g) listed a w:=by
 intro f
 induction f with
 | zero=>intro listed a w hw h;rw[Nat.zero_add];exact hL _ _ _ hw h
 | succ f ih =>
  intro listed a w hw h;rw[show f+1+g=(f+g)+1 by omega];exact⟨fun h0=>absurd h0 h.1,fun i hi=>wpOp_of_qOp hw (fun a' w' hw' h'=>ih _ a' w' hw' h') (h.2 i hi).2⟩
theorem wpHeadQ_first {n i:Nat}{oi:Oper}{v:Value}{L:Array Bool→Act→Prop}(hi:ops[i]?=some oi)(hsel:∀(j:Nat) (o:Oper) cs b,ops[j]?=some o→o.op≠.select cs b)
  (hs:Region.sinkB md ops n=true)(hc:Region.chainB md ops n=true)(hn:n<ops.size)(hin:i<n)
  (hdone:∀listed a,L listed a→∀j∈Region.ready md ops listed,n≤j) :
  ∀(f:Nat) (listed:Array Bool) (a:Act),HeadInv md ops n listed →
   (∀j oj,ops[j]?=some oj→j≠i→listed.getD j true=false→(∀e∈oj.after,Region.binds md e=true→e.on≠i)→oi.apart ops oj=true) →
   i∈Region.ready md ops listed→YieldsIn P ops C oi v a →
   wpHeadQ P md ops C n L f (listed.setIfInBounds i true) (a.put oi.dst v)→wpHeadQ P md ops C n L (f+1) listed a:=by
 intro f
 induction f with
 | zero =>
  intro listed a inv _ hr hy H;have hun:=(mem_ready.1 hr).1;refine⟨List.ne_nil_of_mem hr,fun j hj=>?_⟩;have hjn:j<n:=Nat.lt_of_not_le fun h=>tail_waits hs hc hn inv _ i rfl hin hun j h hj
  by_cases hji:j=i
  ·subst hji;exact⟨hjn,hy.qOp hi H⟩
  ·have h3:=hdone _ _ H j (ready_mono hj hji)
   omega
 | succ f ih =>
  intro listed a inv hfree hr hy H;have hun:=(mem_ready.1 hr).1;refine⟨List.ne_nil_of_mem hr,fun j hj=>?_⟩;have hjn:j<n:=Nat.lt_of_not_le fun h=>tail_waits hs hc hn inv _ i rfl hin hun j h hj
  by_cases hji:j=i
  ·subst hji;exact⟨hjn,hy.qOp hi H⟩
  ·obtain⟨hjun,oj,hoj,hall⟩:=mem_ready.1 hj
   have hnot:∀e∈oj.after,Region.binds md e=true→e.on≠i:=fun e he hb heq=>by
    have h1:=hall e he hb;rw[heq,getD_both hun]at h1
    cases h1
   have hap:=hfree j oj hoj hji hjun hnot;have h2:=qOp_put hoj hap (fun cs b=>hsel i oi cs b hi) (fun cs b=>hsel j oj cs b hoj) hy (H.2 j (ready_mono hj hji)).2
   have hfree':∀k ok,ops[k]?=some ok→k≠i→(listed.setIfInBounds j true).getD k true=false →
     (∀e∈ok.after,Region.binds md e=true→e.on≠i)→oi.apart ops ok=true:=fun k ok hk hki hunk hno=>by
    by_cases hjk:j=k
    ·subst hjk;exact hfree j ok hk hki hjun hno
    ·rw[getD_set_ne true hjk]at hunk;exact hfree k ok hk hki hunk hno
   refine⟨hjn,qOp_mono (fun a' h3=>ih (listed.setIfInBounds j true) a' (inv.set hj hjn) hfree' (ready_mono hr (Ne.symm hji)) h3.1 ?_) h2⟩;rw[Array.setIfInBounds_comm _ _ hji];exact h3.2
theorem wpHeadQ_lex {n g:Nat}{Lq:Act→Prop}(hsel:Region.noSelect ops=true)(hs:Region.sinkB md ops n=true)(hc:Region.chainB md ops n=true)(hn:n<ops.size) :
  ∀(l:List Oper) (k:Nat) (listed:Array Bool) (a:Act),(∀j,j<l.length→l[j]?=ops[k+j]?)→k+l.length=n→HeadInv md ops n listed →
  Region.lexHead md ops g l.length k listed=true→wpQuiet P ops C Lq l a →
  wpHeadQ P md ops C n (fun listed' a'=>Region.seqB md ops g n listed'=true∧Lq a') l.length listed a:=by
 intro l
 induction l with
 | nil =>
  intro k listed a _ hk _ hB h;obtain rfl:k=n:=by simpa using hk
  exact⟨by simpa[Region.lexHead] using hB,h⟩
 | cons o l ih =>
  intro k listed a hl hk inv hB h;simp only[List.length_cons]at hk;have h0:ops[k]?=some o:=by simpa using (hl 0 (by simp)).symm
  simp only[List.length_cons,Region.lexHead,Bool.and_eq_true]at hB;obtain⟨⟨hr,hf⟩,hB'⟩:=hB;have hkn:k<n:=by omega
  have hr':k∈Region.ready md ops listed:=by simpa using hr
  have hst:qOp P ops C k (wpQuiet P ops C Lq l) a:=by unfold qOp;simp only[h0];exact h
  obtain⟨v,hy,hK⟩:=yieldsIn_of_qOp h0 hst
  exact wpHeadQ_first h0 (Region.noSelect_spec hsel) hs hc hn hkn (fun listed' a' hL=>seqB_ready hL.1) l.length listed a inv (Region.free_spec h0 hf) hr' hy
   (ih (k+1) _ _ (fun j hj=>by have:=hl (j+1) (by simp;omega);simpa[Nat.add_assoc,Nat.add_comm 1 j] using this) (by omega) (inv.set hr' hkn) hB' hK)
theorem wp_region_quiet_tail {id:Nat}{Q:Exit→Act→World→Prop}{a:Act}{w:World}{l:List Oper}(n:Nat)(hm:P.follows .mixedOrders=true)(hB:Region.lexTailB .any l.toArray n=true)
  (h:wpQuiet P l.toArray (fun w'=>∃m,w'=w.drewN m) (fun a'=>∀w',(∃m,w'=w.drewN m)→wpList P l.toArray Q (l.drop n) a' w') (l.take n) a):(Code.region id l.toArray true).wp P Q a w:=by
 simp only[Region.lexTailB,Bool.and_eq_true,decide_eq_true_eq]at hB;obtain⟨⟨⟨⟨hsel,hn⟩,hs⟩,hc⟩,hlex⟩:=hB;have hn':n<l.length:=by simpa using hn
 have htl:(l.take n).length=n:=by simp;omega
 have hdl:(l.drop n).length=l.toArray.size-n:=by simp
 have inv0:HeadInv .any l.toArray n (Array.replicate l.toArray.size false) :=
  ⟨by simp,fun j oj _ hl=>(by rw[getD_replicate_false]at hl;cases hl),fun t _ ht=>getD_in (by simpa using ht) (getD_replicate_false _ _)⟩
 have H:=wpHeadQ_lex (md:=.any) (g:=l.toArray.size-n) (C:=fun w'=>∃m,w'=w.drewN m) hsel hs hc hn (l.take n) 0 _ a (fun j hj=>by
  have hj':j<n:=by rw[htl]at hj;exact hj
  simp[hj']) (by simpa using htl) inv0 (by rw[htl];exact hlex) h
 refine wp_region_any hm ?_
 have h4:=wpAny_of_headQ (Q':=Q) (g:=l.toArray.size-n) (fun listed a' w' hw' hL=>by
  have h5:=wpAny_of_seq (md:=.any) (Q':=Q) (l.drop n) n listed a' w' (fun j=>by simp[List.getElem?_drop]) (by rw[hdl];exact hL.1) (hL.2 w' hw')
  rwa [hdl]at h5) _ _ _ { w with drawn:=w.drawn+1 } ⟨1,rfl⟩ H
 rw[htl,show n+(l.toArray.size-n)=l.toArray.size by omega]at h4;exact h4
end
theorem quiet_plus {P:Program}{f:FuncId}{args:Array Value}{w:World}{k n:Nat}{v:Value}
  (h:Calls P f args (w.drewN (k+n)) fun e w'=>e=.returned v∧w'=w.drewN (k+n)):Calls P f args (w.drewN (k+n)) fun e w''=>e=.returned v∧∃m,w''=w.drewN (k+m) :=
 h.mono fun _ _ ⟨he,hm⟩=>⟨he,n,hm⟩
theorem quiet_plusN {P:Program}{f:FuncId}{args:Array Value}{w:World}{k n:Nat}{v:Value}
  (h:Calls P f args (w.drewN (k+n)) fun e w'=>e=.returned v∧∃m,w'=(w.drewN (k+n)).drewN m):Calls P f args (w.drewN (k+n)) fun e w''=>e=.returned v∧∃m,w''=w.drewN (k+m) :=
 h.mono fun _ _ ⟨he,m,hm⟩=>⟨he,n+m,by rw[hm,World.drewN_drewN,Nat.add_assoc]⟩
theorem white_any (n:Int)(w:World):Calls Tryz.prog 42 #[.int .u8 n] w fun e w'=>e=.returned (.bool (isWhite n))∧w'=w:=by
 go_enter Tryz.func42,Tryz.ntmps42
 go_wp2
 all_goals (go_ret;exact⟨by simp_all[isWhite],rfl⟩)
theorem delim_any (n:Int)(w:World):Calls Tryz.prog 52 #[.int .u8 n] w fun e w'=>e=.returned (.bool (isDelim n))∧w'=w:=by
 go_enter Tryz.func52,Tryz.ntmps52
 go_wp2
 all_goals (go_ret;exact⟨by simp_all[isDelim],rfl⟩)
theorem plain_any (n:Int)(w:World):Calls Tryz.prog 43 #[.int .u8 n] w fun e w'=>e=.returned (.bool (isPlain n))∧w'=w:=by
 by_cases h1:32≤n
 all_goals
  go_enter Tryz.func43,Tryz.ntmps43
  go_wp2
  all_goals (go_ret;exact⟨by simp_all[isPlain]<;>omega,rfl⟩)
theorem digit_any (n:Int)(w:World):Calls Tryz.prog 75 #[.int .u8 n] w fun e w'=>e=.returned (.bool (isDig n))∧w'=w:=by
 by_cases h1:48≤n
 all_goals
  go_enter Tryz.func75,Tryz.ntmps75
  go_wp2
  all_goals (go_ret;exact⟨by simp_all[isDig]<;>omega,rfl⟩)
theorem regular_any (n:Int)(w:World):Calls Tryz.prog 76 #[.int .u8 n] w fun e w'=>e=.returned (.bool (isReg n))∧w'=w:=by
 cases h1:isWhite n
 all_goals
  go_enter Tryz.func76,Tryz.ntmps76;go_wp2_with (first|(go_at_call 42;refine(white_any _ _).mono ?_;rintro e w'⟨rfl,rfl⟩)|(go_at_call 52;refine(delim_any _ _).mono ?_;rintro e w'⟨rfl,rfl⟩))
  all_goals (go_ret;exact⟨by simp_all[isReg],rfl⟩)
theorem white_eq {n:Int}{v:Bool}(h:isWhite n=v)(w:World):Calls Tryz.prog 42 #[.int .u8 n] w fun e w'=>e=.returned (.bool v)∧w'=w:=h▸white_any n w
theorem delim_eq {n:Int}{v:Bool}(h:isDelim n=v)(w:World):Calls Tryz.prog 52 #[.int .u8 n] w fun e w'=>e=.returned (.bool v)∧w'=w:=h▸delim_any n w
theorem plain_eq {n:Int}{v:Bool}(h:isPlain n=v)(w:World):Calls Tryz.prog 43 #[.int .u8 n] w fun e w'=>e=.returned (.bool v)∧w'=w:=h▸plain_any n w
theorem digit_eq {n:Int}{v:Bool}(h:isDig n=v)(w:World):Calls Tryz.prog 75 #[.int .u8 n] w fun e w'=>e=.returned (.bool v)∧w'=w:=h▸digit_any n w
theorem regular_eq {n:Int}{v:Bool}(h:isReg n=v)(w:World):Calls Tryz.prog 76 #[.int .u8 n] w fun e w'=>e=.returned (.bool v)∧w'=w:=h▸regular_any n w
theorem qaw {n:Int}{v:Bool}{k:Nat}(w:World)(h:isWhite n=v:=by first|assumption|exact rfl):Calls Tryz.prog 42 #[.int .u8 n] (w.drewN k) fun e w''=>e=.returned (.bool v)∧∃m,w''=w.drewN m:=Calls.quiet_of_same (white_eq h _)
theorem qbw {n:Int}{v:Bool}{k m:Nat}(w:World)(h:isWhite n=v:=by first|assumption|exact rfl):Calls Tryz.prog 42 #[.int .u8 n] (w.drewN (k+m)) fun e w''=>e=.returned (.bool v)∧∃m,w''=w.drewN (k+m):=quiet_plus (white_eq h _)
theorem qap {n:Int}{v:Bool}{k:Nat}(w:World)(h:isPlain n=v:=by first|assumption|exact rfl):Calls Tryz.prog 43 #[.int .u8 n] (w.drewN k) fun e w''=>e=.returned (.bool v)∧∃m,w''=w.drewN m:=Calls.quiet_of_same (plain_eq h _)
theorem qbp {n:Int}{v:Bool}{k m:Nat}(w:World)(h:isPlain n=v:=by first|assumption|exact rfl):Calls Tryz.prog 43 #[.int .u8 n] (w.drewN (k+m)) fun e w''=>e=.returned (.bool v)∧∃m,w''=w.drewN (k+m):=quiet_plus (plain_eq h _)
theorem qad {n:Int}{v:Bool}{k:Nat}(w:World)(h:isDelim n=v:=by first|assumption|exact rfl):Calls Tryz.prog 52 #[.int .u8 n] (w.drewN k) fun e w''=>e=.returned (.bool v)∧∃m,w''=w.drewN m:=Calls.quiet_of_same (delim_eq h _)
theorem qbd {n:Int}{v:Bool}{k m:Nat}(w:World)(h:isDelim n=v:=by first|assumption|exact rfl):Calls Tryz.prog 52 #[.int .u8 n] (w.drewN (k+m)) fun e w''=>e=.returned (.bool v)∧∃m,w''=w.drewN (k+m):=quiet_plus (delim_eq h _)
theorem qar {n:Int}{v:Bool}{k:Nat}(w:World)(h:isReg n=v:=by first|assumption|exact rfl):Calls Tryz.prog 76 #[.int .u8 n] (w.drewN k) fun e w''=>e=.returned (.bool v)∧∃m,w''=w.drewN m:=Calls.quiet_of_same (regular_eq h _)
theorem qbr {n:Int}{v:Bool}{k m:Nat}(w:World)(h:isReg n=v:=by first|assumption|exact rfl):Calls Tryz.prog 76 #[.int .u8 n] (w.drewN (k+m)) fun e w''=>e=.returned (.bool v)∧∃m,w''=w.drewN (k+m):=quiet_plus (regular_eq h _)
theorem hex_any (n:Int)(h0:0≤n)(h1:n≤255)(w:World):Calls Tryz.prog 59 #[.int .u8 n] w fun e w'=>e=.returned (.int .i64 (hexVal n))∧w'=w:=by
 by_cases hd:48≤n∧n≤57
 ·have e1:isDig n=true:=by simp[isDig,hd]
  have e2:hexVal n=n-48:=by simp[hexVal,hd]
  go_enter Tryz.func59,Tryz.ntmps59;go_wp2_with (go_at_call 75;refine(digit_any _ _).mono ?_;rintro e w'⟨rfl,rfl⟩)
  go_ret;exact⟨by simp[e2],rfl⟩
 ·have e1:isDig n=false:=by simp[isDig];omega
  have hd':n<48∨57<n:=by omega
  go_enter Tryz.func59,Tryz.ntmps59;go_wp2_with (go_at_call 75;refine(digit_any _ _).mono ?_;rintro e w'⟨rfl,rfl⟩)
  all_goals (go_ret;exact⟨by unfold hexVal;(repeat' split)<;>simp<;>omega,rfl⟩)
def RdAt (w:World)(b:Nat)(s:ByteArray)(p l:By)(bad deep:Int)(odd ends:Bool):Prop :=
 s.data.toList=p++l∧w.heap[b]?=some (.cells #[.string s,.int .i64 p.length,.int .i64 bad,.int .i64 deep,.bool odd,.bool ends] 57 (0,0))
section
variable {w:World} {b:Nat} {s:ByteArray} {p l:By} {bad deep:Int} {odd ends:Bool}
theorem RdAt.cells (h:RdAt w b s p l bad deep odd ends):w.cell? ⟨b,0,none⟩=some (.string s)∧w.cell? ⟨b,1,none⟩=some (.int .i64 p.length)∧w.cell? ⟨b,2,none⟩=some (.int .i64 bad)∧w.cell? ⟨b,3,none⟩=some (.int .i64 deep) ∧
  w.cell? ⟨b,4,none⟩=some (.bool odd)∧w.cell? ⟨b,5,none⟩=some (.bool ends)∧(∀i,w.frozen? ⟨b,i,none⟩=false):=by
 obtain⟨_,h⟩:=h;simp[World.cell?,World.frozen?,h]
theorem RdAt.size (h:RdAt w b s p l bad deep odd ends):s.size=p.length+l.length:=by
 have h1:=congrArg List.length h.1;simp at h1;simpa using h1
theorem RdAt.lt (h:RdAt w b s p l bad deep odd ends):b<w.heap.size:=(Array.getElem?_eq_some_iff.1 h.2).1
theorem RdAt.of_heap {w':World}(h:RdAt w b s p l bad deep odd ends)(e:w'.heap[b]?=w.heap[b]?):RdAt w' b s p l bad deep odd ends:=⟨h.1,e.trans h.2⟩
theorem RdAt.head {c:UInt8}(h:RdAt w b s p (c::l) bad deep odd ends):∃hk:p.length<s.size,s[p.length]'hk=c:=by
 have h1:=h.size;simp at h1;refine⟨by omega,?_⟩;have h2:s.data.toList[p.length]?=some c:=by rw[h.1];simp
 have h3:s.data[p.length]?=some c:=by simpa using h2
 obtain⟨hh,h4⟩:=Array.getElem?_eq_some_iff.1 h3;exact h4
theorem RdAt.set1 {c:UInt8}(h:RdAt w b s p (c::l) bad deep odd ends):RdAt (w.setCell ⟨b,1,none⟩ (.int .i64 (p.length+1))) b s (p++[c]) l bad deep odd ends:=by
 refine⟨by rw[h.1];simp,?_⟩;simp[World.setCell,Array.getElem?_modify,h.2]
theorem RdAt.set4 (h:RdAt w b s p l bad deep odd ends)(o:Bool):RdAt (w.setCell ⟨b,4,none⟩ (.bool o)) b s p l bad deep o ends:=by
 refine⟨h.1,?_⟩;simp[World.setCell,Array.getElem?_modify,h.2]
theorem RdAt.drewN (h:RdAt w b s p l bad deep odd ends)(n:Nat):RdAt (w.drewN n) b s p l bad deep odd ends:=h
end
theorem gr_set {w wr:World}{b:Nat}(h:w.grownBy wr (some b))(i:Nat)(v:Value):w.grownBy (wr.setCell ⟨b,i,none⟩ v) (some b) :=
 ⟨h.os,h.tape,h.output,by simpa using h.size,fun k hk hkb=>(Below.heap_setCell _ _ _ _ (by simpa using hkb)).trans (h.block k hk hkb)⟩
theorem gr_drewN {w wr:World}{r:Option Nat}(h:w.grownBy wr r)(n:Nat):w.grownBy (wr.drewN n) r:=⟨h.os,h.tape,h.output,h.size,h.block⟩
theorem gr_drew {w wr:World}{r:Option Nat}(h:w.grownBy wr r):w.grownBy wr.drew r:=⟨h.os,h.tape,h.output,h.size,h.block⟩
theorem gr_alloc {w wr:World}{r:Option Nat}(h:w.grownBy wr r)(o:Obj):w.grownBy (wr.alloc o) r :=
 ⟨h.os,h.tape,h.output,by have:=h.size;simp;omega,fun k hk hkb=>(Below.heap_alloc _ _ _ (by have:=h.size;omega)).trans (h.block k hk hkb)⟩
theorem pass_any (w : World)(b : Nat)(s : ByteArray)(p l : By)(bad deep : Int)(odd ends : Bool)(hR : RdAt w b s p l bad deep odd ends)(hs : s.size ≤ 140737488351240) :
  Calls Tryz.prog 25 #[.pointer (some ⟨b,0,none⟩)] w fun e w'=>e=.returned (.tuple #[])∧(∃p',RdAt w' b s p' (passM false l odd).1 bad deep (passM false l odd).2 ends)∧w.grownBy w' (some b):=by
 have HR:=xhd hR;clear hR;go_enter Tryz.func25,Tryz.ntmps25;go_wp2_with fail
 go_loopg [] l.length (fun g wr=>∃p' l' o',g=l'.length∧RdAt wr b s p' l' bad deep o' ends∧passM false l' o'=passM false l odd∧w.grownBy wr (some b))
 case atStart=>exact⟨p,l,odd,rfl,HR.out,rfl,xgr _ _⟩
 case round =>
  obtain⟨p',l',o',hg,hR',hP,hG⟩:=hrel;obtain⟨c0,c1,c2,c3,c4,c5,cf⟩:=hR'.cells;have hsz:=hR'.size;obtain⟨HP,HR',HG,Hg⟩:=xh4 hP hR' hG hg;clear hP hR' hG hg
  cases l' with
  | nil =>
   have hlt:¬p'.length<s.size:=by simp at hsz;omega
   clear hsz;go_wp2_with fail
   go_quiet (first|(go_at_call 42;with_reducible first|exact qaw _|exact qbw _)|(go_at_call 43;with_reducible first|exact qap _|exact qbp _));go_wp2_with fail
   go_end0;refine⟨rfl,?_,(by repeat (first|exact HG.out|apply gr_set|apply gr_drewN|apply gr_drew|apply gr_alloc))⟩;rw[←HP.out];exact⟨p',HR'.out⟩
  | cons c l2 =>
   obtain⟨hlt,hc⟩:=HR'.out.head;clear hsz;have hcr:=bi_range c
   cases h1:isWhite (c.toNat:Int)
   ·by_cases h2 : (c.toNat : Int) = 37
    ·have hb2 : ((c.toNat : Int) == 37) = true := by simp[h2]
     have H2:=xhd h2;clear h2;go_wp2_with fail
     go_quiet (first|(go_at_call 42;with_reducible first|exact qaw _|exact qbw _)|(go_at_call 43;with_reducible first|exact qap _|exact qbp _));go_wp2_with fail
     go_quiet (first|(go_at_call 42;with_reducible first|exact qaw _|exact qbw _)|(go_at_call 43;with_reducible first|exact qap _|exact qbp _));go_wp2_with fail
     go_quiet (first|(go_at_call 42;with_reducible first|exact qaw _|exact qbw _)|(go_at_call 43;with_reducible first|exact qap _|exact qbp _));go_wp2_with fail
     have h37:passM true (c::l2) o'=passM false (c::l2) o':=by
      have e:(c.toNat:Int)=37:=H2.out;simp[passM,e,isWhite,isPlain]
     have H37:=xhd h37;clear h37 c0 c1 c2 c3 c4 c5 cf hlt hc hcr hb2 h1
     go_loopg [] (l2.length+1) (fun g wi=>∃p2 l3 o3,g=l3.length∧RdAt wi b s p2 l3 bad deep o3 ends∧passM true l3 o3=passM false l odd∧w.grownBy wi (some b)∧(l3=c::l2∨l3.length<(c::l2).length))
     case atStart=>exact⟨p',c::l2,o',rfl,HR'.out,H37.out.trans HP.out,(by repeat (first|exact HG.out|apply gr_set|apply gr_drewN|apply gr_drew|apply gr_alloc)),.inl rfl⟩
     case round =>
      clear HR' HP HG H37;obtain⟨p2,l3,o3,hg2,hR2,hP2,hG2,hL2⟩:=hrel;obtain⟨c0,c1,c2,c3,c4,c5,cf⟩:=hR2.cells;have hsz:=hR2.size;obtain⟨HR,HP,HG,HL,Hg2⟩:=xh5 hR2 hP2 hG2 hL2 hg2;clear hR2 hP2 hG2 hL2 hg2
      cases l3 with
      | nil =>
       have hlt:¬p2.length<s.size:=by simp at hsz;omega
       have hd:decide ((p2.length:Int)<(s.size:Int))=false:=by simpa using hlt
       clear hsz;go_wp2_with fail
       go_quiet (first|(go_at_call 42;with_reducible first|exact qaw _|exact qbw _)|(go_at_call 43;with_reducible first|exact qap _|exact qbp _));go_wp2_with fail
       go_roundg 0
       case measure=>rw[Hg.out];simp
       case rel=>exact⟨p2,[],o3,rfl,HR.out,by rw[←HP.out];simp[passM],(by repeat (first|exact HG.out|apply gr_set|apply gr_drewN|apply gr_drew|apply gr_alloc))⟩
      | cons d l4 =>
       obtain⟨hlt,hc⟩:=HR.out.head;clear hsz;have hd:decide ((p2.length:Int)<(s.size:Int))=true:=by simpa using hlt
       have hdr:=bi_range d
       have key:((((d.toNat:Int) != 10)=false∨((d.toNat:Int) != 10)=true∧((d.toNat:Int) != 13)=false)∧Hid (isWhite (d.toNat:Int)=true∧((d.toNat:Int)==10||(d.toNat:Int)==13)=true∧l4.length+1<(c::l2).length))∨(((d.toNat:Int) != 10)=true∧((d.toNat:Int) != 13)=true∧Hid (((d.toNat:Int)==10||(d.toNat:Int)==13)=false)):=by
        by_cases e:(d.toNat:Int)=10∨(d.toNat:Int)=13
        ·left
         refine⟨?_,?_,?_,?_⟩
         ·rcases e with e|e<;>simp[e]
         ·rcases e with e|e<;>simp[e,isWhite]
         ·rcases e with e|e<;>simp[e]
         ·rcases HL.out with e2|e2
          ·exfalso
           have e3:(c.toNat:Int)=37:=H2.out;have e4:d=c:=by injection e2
           rw[e4,e3]at e;omega
          ·simpa using e2
        ·right
         have n1:(d.toNat:Int)≠10:=fun h=>e (.inl h);have n2:(d.toNat:Int)≠13:=fun h=>e (.inr h);refine⟨by simpa using n1,by simpa using n2,?_⟩
         show ((d.toNat:Int)==10||(d.toNat:Int)==13)=false
         simp[n1,n2]
       rcases key with⟨h10,hk⟩|⟨h10,h13,hk⟩
       ·rcases h10 with h10|⟨h10,h13⟩
        all_goals
         go_wp2_with fail
         go_quiet (first|(go_at_call 42;with_reducible first|exact qaw _|exact qbw _)|(go_at_call 43;with_reducible first|exact qap _|exact qbp _));go_wp2_with fail
         go_roundg (l4.length+1)
         case measure=>rw[Hg.out];exact hk.out.2.2
         case rel=>exact⟨p2,d::l4,o3,rfl,HR.out,by rw[←HP.out];have:=hk.out;simp[passM,this.1,this.2.1],(by repeat (first|exact HG.out|apply gr_set|apply gr_drewN|apply gr_drew|apply gr_alloc))⟩
       ·cases o3
        ·cases hpl:isPlain (d.toNat:Int)
         all_goals
          go_wp2_with fail
          go_quiet (first|(go_at_call 42;with_reducible first|exact qaw _|exact qbw _)|(go_at_call 43;with_reducible first|exact qap _|exact qbp _));go_wp2_with fail
          (refine wp_region_quiet_tail 18 (by kernel_rfl) (by kernel_rfl) ?_;simp only[List.take_succ_cons,List.take_zero,List.drop_succ_cons,List.drop_zero];(repeat (go_big_quiet_step (first|(go_at_call 42;with_reducible first|exact qaw _|exact qbw _)|(go_at_call 43;with_reducible first|exact qap _|exact qbp _))));refine wpQuiet_nil ?_;intro _ hwt;obtain⟨nt,hwt'⟩:=hwt;subst hwt';go_wp2_with fail)
          go_roundg l4.length
          case measure=>rw[Hg2.out];simp
          case rel =>
           refine⟨p2++[d],l4,_,rfl,(HR.out.set4 _).set1,?_,(by repeat (first|exact HG.out|apply gr_set|apply gr_drewN|apply gr_drew|apply gr_alloc)),.inr ?_⟩
           ·rw[←HP.out];simp[passM,hk.out,hpl]
           ·rcases HL.out with e2|e2
            ·rw[←e2];simp
            ·exact Nat.lt_of_succ_lt (by simpa using e2)
        ·go_wp2_with fail
         go_quiet (first|(go_at_call 42;with_reducible first|exact qaw _|exact qbw _)|(go_at_call 43;with_reducible first|exact qap _|exact qbp _));go_wp2_with fail
         (refine wp_region_quiet_tail 18 (by kernel_rfl) (by kernel_rfl) ?_;simp only[List.take_succ_cons,List.take_zero,List.drop_succ_cons,List.drop_zero];(repeat (go_big_quiet_step (first|(go_at_call 42;with_reducible first|exact qaw _|exact qbw _)|(go_at_call 43;with_reducible first|exact qap _|exact qbp _))));refine wpQuiet_nil ?_;intro _ hwt;obtain⟨nt,hwt'⟩:=hwt;subst hwt';go_wp2_with fail)
         go_roundg l4.length
         case measure=>rw[Hg2.out];simp
         case rel =>
          refine⟨p2++[d],l4,true,rfl,(HR.out.set4 _).set1,?_,(by repeat (first|exact HG.out|apply gr_set|apply gr_drewN|apply gr_drew|apply gr_alloc)),.inr ?_⟩
          ·rw[←HP.out];simp[passM,hk.out]
          ·rcases HL.out with e2|e2
           ·rw[←e2];simp
           ·exact Nat.lt_of_succ_lt (by simpa using e2)
    ·have hb2:((c.toNat:Int)==37)=false:=by simp[h2]
     clear h2;go_wp2_with fail
     go_quiet (first|(go_at_call 42;with_reducible first|exact qaw _|exact qbw _)|(go_at_call 43;with_reducible first|exact qap _|exact qbp _));go_wp2_with fail
     go_quiet (first|(go_at_call 42;with_reducible first|exact qaw _|exact qbw _)|(go_at_call 43;with_reducible first|exact qap _|exact qbp _));go_wp2_with fail
     go_quiet (first|(go_at_call 42;with_reducible first|exact qaw _|exact qbw _)|(go_at_call 43;with_reducible first|exact qap _|exact qbp _));go_wp2_with fail
     refine bodyPost_ret (results_none rfl _ _ _) rfl ?_;refine⟨rfl,?_,(by repeat (first|exact HG.out|apply gr_set|apply gr_drewN|apply gr_drew|apply gr_alloc))⟩;rw[←HP.out];have:passM false (c::l2) o'=(c::l2,o'):=by simp[passM,h1,hb2]
     rw[this];exact⟨p',HR'.out⟩
   ·go_wp2_with fail
    go_quiet (first|(go_at_call 42;with_reducible first|exact qaw _|exact qbw _)|(go_at_call 43;with_reducible first|exact qap _|exact qbp _));go_wp2_with fail
    go_quiet (first|(go_at_call 42;with_reducible first|exact qaw _|exact qbw _)|(go_at_call 43;with_reducible first|exact qap _|exact qbp _));go_wp2_with fail
    go_roundg l2.length
    case measure=>rw[Hg.out];simp
    case rel =>
     refine⟨p'++[c],l2,o',rfl,?_,?_,?_⟩
     ·exact HR'.out.set1
     ·rw[←HP.out];simp[passM,h1]
     ·exact(by repeat (first|exact HG.out|apply gr_set|apply gr_drewN|apply gr_drew|apply gr_alloc))
end Go.Proofs.YtfkecmlmnhbmoaaGreatDoor
