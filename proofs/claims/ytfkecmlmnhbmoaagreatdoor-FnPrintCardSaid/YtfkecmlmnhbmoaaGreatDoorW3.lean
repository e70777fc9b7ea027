/- Parts A3. -/
import Derived.Test.YtfkecmlmnhbmoaaGreatDoorW2
set_option linter.unusedVariables false
set_option linter.unusedSimpArgs false
set_option maxRecDepth 100000
set_option maxHeartbeats 40000000
namespace Go.Proofs.YtfkecmlmnhbmoaaGreatDoor
open Go Go.RowKit
theorem ret_str {a b:ByteArray}(h:a=b):Ending.returned (.string a)=.returned (.string b):=by rw[h]
theorem ret_bool {a b:Bool}(h:a=b):Ending.returned (.bool a)=.returned (.bool b):=by rw[h]
theorem extract_eq {s:ByteArray}{p q l:By}(h:s.data.toList=p++q++l):s.extract p.length (p++q).length=⟨q.toArray⟩:=by
 have e:(s.extract p.length (p++q).length).data.toList=q:=by
  simp[h]
 cases hh:s.extract p.length (p++q).length with
 | mk d =>
  rw[hh]at e;have e':d.toList=q:=e;rw[←e']
theorem RdAt.head' {w:World}{b:Nat}{s:ByteArray}{p l:By}{bad deep:Int}{odd ends:Bool}{c:UInt8}(h:RdAt w b s p (c::l) bad deep odd ends) :
  ∃hk:p.length<s.size,s[p.length]'hk=c∧decide ((p.length:Int)<(s.size:Int))=true∧0≤(c.toNat:Int)∧(c.toNat:Int)≤255:=by
 obtain⟨hk,hc⟩:=h.head;exact⟨hk,hc,by simpa using hk,bi_range c⟩
theorem RdAt.none {w:World}{b:Nat}{s:ByteArray}{p:By}{bad deep:Int}{odd ends:Bool}(h:RdAt w b s p [] bad deep odd ends) :
  ¬p.length<s.size∧decide ((p.length:Int)<(s.size:Int))=false:=by
 have:=h.size;simp at this;exact⟨by omega,by simp;omega⟩
def WordInv (w wr:World)(b:Nat)(s:ByteArray)(p l:By)(bad deep:Int)(odd ends:Bool)(q l':By)(o':Bool):Prop :=
 RdAt wr b s (p++q) l' bad deep o' ends∧wordT l=q++wordT l'∧wordR l'=wordR l∧wordO l' o'=wordO l odd∧w.grownBy wr (some b)
theorem WordInv.fin {w wr:World}{b:Nat}{s:ByteArray}{p l:By}{bad deep:Int}{odd ends:Bool}{q l' pq:By}{o':Bool}(h:WordInv w wr b s p l bad deep odd ends q l' o')(e:pq=p++q)(hT:wordT l'=[])(hR:wordR l'=l') :
  s.extract p.length pq.length=⟨(wordT l).toArray⟩∧p++wordT l=pq∧wordR l=l':=by
 obtain⟨h1,h2,h3,h4,_⟩:=h;rw[hT,List.append_nil]at h2;subst e;exact⟨by rw[h2];exact extract_eq h1.1,by rw[h2],by rw[←h3,hR]⟩
theorem WordInv.next {w wr wn:World}{b:Nat}{s:ByteArray}{p l:By}{bad deep:Int}{odd ends:Bool}{q l':By}{o' on:Bool}{c:UInt8}(h:WordInv w wr b s p l bad deep odd ends q (c::l') o')(hreg:isReg (c.toNat:Int)=true)
  (hR:RdAt wn b s (p++q++[c]) l' bad deep on ends)(ho:on=(o'||!isPlain (c.toNat:Int)))(hg:w.grownBy wn (some b)):WordInv w wn b s p l bad deep odd ends (q++[c]) l' on:=by
 obtain⟨h1,h2,h3,h4,_⟩:=h;refine⟨by rw[←List.append_assoc];exact hR,?_,?_,?_,hg⟩
 ·rw[h2];simp[wordT,hreg]
 ·rw[←h3];simp[wordR,hreg]
 ·rw[←h4,ho];simp[wordO,hreg]
theorem word_any (w:World)(b:Nat)(s:ByteArray)(p l:By)(bad deep:Int)(odd ends:Bool)(hR:RdAt w b s p l bad deep odd ends)(hs:s.size≤140737488351240) :
  Calls Tryz.prog 61 #[.pointer (some ⟨b,0,none⟩)] w fun e w'=>e=.returned (.string ⟨(wordT l).toArray⟩)∧RdAt w' b s (p++wordT l) (wordR l) bad deep (wordO l odd) ends∧w.grownBy w' (some b):=by
 have HR:=xhd hR;have hp0:p.length≤s.size:=by have:=hR.size;omega
 obtain⟨c0,c1,c2,c3,c4,c5,cf⟩:=HR.out.cells;have hsz:=HR.out.size;clear hR hsz;go_enter Tryz.func61,Tryz.ntmps61;go_wp2_with fail
 clear c0 c1 c2 c3 c4 c5 cf
 go_loopg [] l.length (fun g wr=>∃q l' o',g=l'.length∧WordInv w wr b s p l bad deep odd ends q l' o')
 case atStart=>exact⟨[],l,odd,rfl,by simpa using HR.out,rfl,rfl,rfl,xgr _ _⟩
 case round =>
  obtain⟨q,l',o',hg,hI⟩:=hrel;obtain⟨HI,Hg⟩:=xh2 hI hg;have hqs:(p++q).length≤s.size:=by have:=hI.1.size;omega
  have hpq:p.length≤(p++q).length:=by simp
  have HG:=xhd hI.2.2.2.2;clear HR hI hg;have HR:=xhd HI.out.1;obtain⟨pq,hpqe⟩:∃pq,pq=p++q:=⟨_,rfl⟩;rw[←hpqe]at hqs hpq HR;have Hpq:=xhd hpqe;clear hpqe
  obtain⟨c0,c1,c2,c3,c4,c5,cf⟩:=HR.out.cells;have hsz:=HR.out.size;clear hsz
  cases l' with
  | nil =>
   obtain⟨hlt,hd⟩:=HR.out.none
   cases o'
   all_goals
    go_wp2_with fail
    go_quiet (first|(go_at_call 76;with_reducible first|exact qar _|exact qbr _)|(go_at_call 43;with_reducible first|exact qap _|exact qbp _));go_wp2_with fail
    (refine wp_region_quiet_tail 53 (by kernel_rfl) (by kernel_rfl) ?_;simp only[List.take_succ_cons,List.take_zero,List.drop_succ_cons,List.drop_zero];(repeat (go_big_quiet_step (first|(go_at_call 76;with_reducible first|exact qar _|exact qbr _)|(go_at_call 43;with_reducible first|exact qap _|exact qbp _))));refine wpQuiet_nil ?_;intro _ hwt;obtain⟨nt,hwt'⟩:=hwt;subst hwt';go_wp2_with fail)
    go_quiet (first|(go_at_call 76;with_reducible first|exact qar _|exact qbr _)|(go_at_call 43;with_reducible first|exact qap _|exact qbp _));go_wp2_with fail
    go_ret;obtain⟨f1,f2,f3⟩:=HI.out.fin Hpq.out rfl rfl;have f4:=HI.out.2.2.2.1;refine⟨ret_str f1,?_,(by repeat (first|exact HG.out|apply gr_set|apply gr_drewN|apply gr_drew|apply gr_alloc))⟩;rw[f2,f3,←f4];exact HR.out.set4 _
  | cons c l2 =>
   obtain⟨hlt,hc,hd,hr0,hr1⟩:=HR.out.head'
   cases hreg:isReg (c.toNat:Int)
   ·have hcs:o'=true∨o'=false∧(((c.toNat:Int)==123)=true∨((c.toNat:Int)==123)=false∧(((c.toNat:Int)==125)=true∨((c.toNat:Int)==125)=false∧(((c.toNat:Int)==41)=true∨((c.toNat:Int)==41)=false))):=by
     cases o'<;>cases ((c.toNat:Int)==123)<;>cases ((c.toNat:Int)==125)<;>cases ((c.toNat:Int)==41)<;>simp
    rcases hcs with rfl|⟨rfl,h1|⟨h1,h2|⟨h2,h3|h3⟩⟩⟩
    all_goals
     go_wp2_with fail
     go_quiet (first|(go_at_call 76;with_reducible first|exact qar _|exact qbr _)|(go_at_call 43;with_reducible first|exact qap _|exact qbp _));go_wp2_with fail
     (refine wp_region_quiet_tail 53 (by kernel_rfl) (by kernel_rfl) ?_;simp only[List.take_succ_cons,List.take_zero,List.drop_succ_cons,List.drop_zero];(repeat (go_big_quiet_step (first|(go_at_call 76;with_reducible first|exact qar _|exact qbr _)|(go_at_call 43;with_reducible first|exact qap _|exact qbp _))));refine wpQuiet_nil ?_;intro _ hwt;obtain⟨nt,hwt'⟩:=hwt;subst hwt';go_wp2_with fail)
     go_quiet (first|(go_at_call 76;with_reducible first|exact qar _|exact qbr _)|(go_at_call 43;with_reducible first|exact qap _|exact qbp _));go_wp2_with fail
     go_ret;obtain⟨f1,f2,f3⟩:=HI.out.fin Hpq.out (by simp[wordT,hreg]) (by simp[wordR,hreg]);have f4:=HI.out.2.2.2.1;refine⟨ret_str f1,?_,(by repeat (first|exact HG.out|apply gr_set|apply gr_drewN|apply gr_drew|apply gr_alloc))⟩;rw[f2,f3,←f4]
     first
      | exact HR.out.set4 _
      | (simp only[wordO,hreg,h1,h2,h3,Bool.or_true,Bool.true_or,Bool.or_false,Bool.false_or];exact HR.out.set4 _)
      | (simp only[wordO,hreg,h1,h2,Bool.or_true,Bool.true_or,Bool.or_false,Bool.false_or];exact HR.out.set4 _)
      | (simp only[wordO,hreg,h1,Bool.or_true,Bool.true_or,Bool.or_false,Bool.false_or];exact HR.out.set4 _)
      | (simp only[wordO,hreg,Bool.or_true,Bool.true_or,Bool.or_false,Bool.false_or];exact HR.out.set4 _)
   ·cases o'
    ·cases hpl:isPlain (c.toNat:Int)
     all_goals
      go_wp2_with fail
      go_quiet (first|(go_at_call 76;with_reducible first|exact qar _|exact qbr _)|(go_at_call 43;with_reducible first|exact qap _|exact qbp _));go_wp2_with fail
      (refine wp_region_quiet_tail 18 (by kernel_rfl) (by kernel_rfl) ?_;simp only[List.take_succ_cons,List.take_zero,List.drop_succ_cons,List.drop_zero];(repeat (go_big_quiet_step (first|(go_at_call 76;with_reducible first|exact qar _|exact qbr _)|(go_at_call 43;with_reducible first|exact qap _|exact qbp _))));refine wpQuiet_nil ?_;intro _ hwt;obtain⟨nt,hwt'⟩:=hwt;subst hwt';go_wp2_with fail)
      go_roundg l2.length
      case measure=>rw[Hg.out];simp
      case rel=>exact⟨q++[c],l2,_,rfl,HI.out.next hreg (by rw[←Hpq.out];exact(HR.out.set4 _).set1) (by simp[hpl]) (by repeat (first|exact HG.out|apply gr_set|apply gr_drewN|apply gr_drew|apply gr_alloc))⟩
    ·go_wp2_with fail
     go_quiet (first|(go_at_call 76;with_reducible first|exact qar _|exact qbr _)|(go_at_call 43;with_reducible first|exact qap _|exact qbp _));go_wp2_with fail
     (refine wp_region_quiet_tail 18 (by kernel_rfl) (by kernel_rfl) ?_;simp only[List.take_succ_cons,List.take_zero,List.drop_succ_cons,List.drop_zero];(repeat (go_big_quiet_step (first|(go_at_call 76;with_reducible first|exact qar _|exact qbr _)|(go_at_call 43;with_reducible first|exact qap _|exact qbp _))));refine wpQuiet_nil ?_;intro _ hwt;obtain⟨nt,hwt'⟩:=hwt;subst hwt';go_wp2_with fail)
     go_roundg l2.length
     case measure=>rw[Hg.out];simp
     case rel=>exact⟨q++[c],l2,_,rfl,HI.out.next hreg (by rw[←Hpq.out];exact(HR.out.set4 _).set1) (by simp) (by repeat (first|exact HG.out|apply gr_set|apply gr_drewN|apply gr_drew|apply gr_alloc))⟩
end Go.Proofs.YtfkecmlmnhbmoaaGreatDoor
