/- Parts B2z B3 B4 B5 B6. -/
import Derived.Test.YtfkecmlmnhbmoaaGreatDoorW11
import Derived.Test.YtfkecmlmnhbmoaaGreatDoorW12
import Derived.Test.YtfkecmlmnhbmoaaGreatDoorW13
import Derived.Test.YtfkecmlmnhbmoaaGreatDoorW14
import Derived.Test.YtfkecmlmnhbmoaaGreatDoorW19
set_option linter.unusedVariables false
set_option linter.unusedSimpArgs false
set_option maxRecDepth 100000
set_option maxHeartbeats 40000000
namespace Go.Proofs.YtfkecmlmnhbmoaaGreatDoor
open Go Go.RowKit
theorem ref_any (pf:By→Nat)(W0 w:World)(hI:Init W0)(hpf:PFC pf W0)(hE:Env W0 w)(b:Nat)(s:ByteArray)(p l:By)(deep:Int)(odd ends:Bool)(hR:RdAt w b s p l 0 deep odd ends)(hs:s.size≤140737488351240)
  (hW0:W0.heap.size≤b)(n:Int)(text:ByteArray)(tl:By)(htl:text.data.toList=tl)(hnum:numF pf tl=(2,n,0,0)) :
  Calls Tryz.prog 64 #[.pointer (some ⟨b,0,none⟩),numV 2 n 0,.string text] w fun e w'=>RefPost w w' b s deep ends e (refF pf n tl l odd):=by
 obtain⟨⟨la,oa⟩,hP1⟩:∃a,passM false l odd=a:=⟨_,rfl⟩;obtain⟨⟨gk,gn,gx,st⟩,hN⟩:∃a,numF pf (wordT la)=a:=⟨_,rfl⟩;rcases xbt (st==1) with hst|hst
 ·exact ref_a pf W0 w hI hpf hE b s p l deep odd ends hR hs hW0 n text tl htl hnum hP1 hN hst
 ·obtain⟨⟨lc,oc⟩,hP5⟩:∃a,passM false (wordR la) (wordO la oa)=a:=⟨_,rfl⟩
  obtain⟨O,hO⟩:∃a,wordO lc oc=a:=⟨_,rfl⟩;obtain⟨W,hW⟩:∃a,wordT lc=a:=⟨_,rfl⟩
  cases W with
  | nil=>exact ref_b pf W0 w hI hpf hE b s p l deep odd ends hR hs hW0 n text tl htl hnum hP1 hN hP5 hW hO hst
  | cons c W =>
   by_cases hw:c::W=[82]
   ·rcases xbt (st != 0) with hs0|hs0
    ·exact ref_e pf W0 w hI hpf hE b s p l deep odd ends hR hs hW0 n text tl htl hnum hP1 hN hP5 hW hO hst hw hs0
    ·obtain rfl:st=0:=by simpa using hs0
     rcases xbt (gk != 2) with hk0|hk0
     ·exact ref_f pf W0 w hI hpf hE b s p l deep odd ends hR hs hW0 n text tl htl hnum hP1 hN hP5 hW hO hw hk0
     ·obtain rfl:gk=2:=by simpa using hk0
      rcases xbt (headIs (wordT la) isDig) with hd|hd
      ·rcases xbt (headIs tl isDig) with ht|ht
       ·rcases xbt (n==0) with hn|hn
        ·exact ref_i pf W0 w hI hpf hE b s p l deep odd ends hR hs hW0 n text tl htl hnum hP1 hN hP5 hW hO hw hd ht hn
        ·rcases xbt (decide (65535<gn)) with hg|hg
         ·exact ref_j pf W0 w hI hpf hE b s p l deep odd ends hR hs hW0 n text tl htl hnum hP1 hN hP5 hW hO hw hd ht hn hg
         ·exact ref_k pf W0 w hI hpf hE b s p l deep odd ends hR hs hW0 n text tl htl hnum hP1 hN hP5 hW hO hw hd ht hn hg
       ·exact ref_h pf W0 w hI hpf hE b s p l deep odd ends hR hs hW0 n text tl htl hnum hP1 hN hP5 hW hO hw hd ht
      ·exact ref_g pf W0 w hI hpf hE b s p l deep odd ends hR hs hW0 n text tl htl hnum hP1 hN hP5 hW hO hw hd
   ·rcases xbt ((c.toNat:Int)==82) with h82|h82
    ·exact ref_c pf W0 w hI hpf hE b s p l deep odd ends hR hs hW0 n text tl htl hnum hP1 hN hP5 hW hO hst hw h82
    ·exact ref_d pf W0 w hI hpf hE b s p l deep odd ends hR hs hW0 n text tl htl hnum hP1 hN hP5 hW hO hst hw h82
theorem signed_any (w:World)(s:ByteArray)(l:By)(hl:s.data.toList=l)(hs:s.size≤140737488351240) :
  Calls Tryz.prog 37 #[.string s] w fun e w'=>e=.returned (.bool (decide ((35:UInt8)∈l)))∧w'=w:=by
 have Hl:=xhd hl;clear hl;go_enter Tryz.func37,Tryz.ntmps37;go_wp2_with fail
 go_loopg [6] l.length (fun g t6 wr=>∃pre l',g=l'.length∧t6=.int .i64 (pre.length:Nat)∧s.data.toList=pre++l'∧((35:UInt8)∈l↔(35:UInt8)∈l')∧wr=w)
 case atStart=>exact⟨[],l,rfl,rfl,by simpa using Hl.out,Iff.rfl,rfl⟩
 case round =>
  obtain⟨pre,l',hg,rfl,hS,hF,rfl⟩:=hrel;have hsz:s.size=pre.length+l'.length:=by have:=congrArg List.length hS;simpa using this
  obtain⟨HS,HF,Hg⟩:=xh3 hS hF hg;have hp1:pre.length≤s.size:=by omega
  clear hS hF hg
  cases l' with
  | nil =>
   have hlt:¬pre.length<s.size:=by simp at hsz;omega
   clear hsz;go_wp2_with fail
   go_ret;refine⟨ret_bool ?_,rfl⟩;have:¬(35:UInt8)∈l:=by rw[HF.out];simp
   simp[this]
  | cons c l2 =>
   obtain⟨hlt,hc,hd,hr0,hr1⟩:=at_byte HS.out;clear hsz;rcases xbt ((c.toNat:Int)==35) with h1|h1
   ·go_wp2_with fail
    go_ret;refine⟨ret_bool ?_,rfl⟩;have e:c=35:=by apply UInt8.toNat_inj.1;simp at h1;simp;omega
    have:(35:UInt8)∈l:=by rw[HF.out,e];simp
    simp[this]
   ·go_wp2_with fail
    go_roundg l2.length
    case measure=>rw[Hg.out];simp
    case rel =>
     refine⟨pre++[c],l2,rfl,by simp,by rw[HS.out];simp,?_,rfl⟩;rw[HF.out];have e:¬(35:UInt8)=c:=by intro e;rw[←e]at h1;exact absurd h1 (by decide)
     simp[e]
theorem numF_kind {pf:By→Nat}{l:By}{k n:Int}{x:Nat}(h:numF pf l=(k,n,x,0)):(k=3∧n=0)∨(k=2∧x=0):=by
 revert h;unfold numF
 split
 ·intro h;simp at h
 ·repeat' split
  all_goals
   intro h;simp at h
   try omega
def NumPost (w w':World)(b:Nat)(s:ByteArray)(deep:Int)(ends:Bool)(e:Ending):Rd PV→Prop
 | some (x,r,o)=>e=.returned (valOf x nilS nilS)∧(∃p',RdAt w' b s p' r 0 deep o ends)∧w.grownBy w' (some b)
 | none=>e=.returned zeroV∧(∃p' l' o' bad,bad≠0∧RdAt w' b s p' l' bad deep o' ends)∧w.grownBy w' (some b)
theorem num53_any (pf:By→Nat)(W0 w:World)(hI:Init W0)(hpf:PFC pf W0)(hE:Env W0 w)(b:Nat)(s:ByteArray)(p l:By)(deep:Int)(odd ends:Bool)(hR:RdAt w b s p l 0 deep odd ends)(hs:s.size≤140737488351240)
  (hW0:W0.heap.size≤b) :
  Calls Tryz.prog 53 #[.pointer (some ⟨b,0,none⟩)] w fun e w'=>NumPost w w' b s deep ends e (rdNum pf l odd):=by
 have HR:=xhd hR;have hbB:=hR.lt;obtain⟨HI,Hpf,HE⟩:=xh3 hI hpf hE;clear hI hpf hE
 clear hR;go_enter Tryz.func53,Tryz.ntmps53;go_wp2_with fail
 refine(word_any _ b s p l 0 deep odd ends (by exact HR.out.alloc _) (by omega)).mono ?_;rintro e w1⟨rfl,hR1,hg1⟩;have HG1:=xhd (gr_same (gr_alloc (xgr w (some b)) _) hg1);have HZ1:=xhd (keep hg1 (heap_alloc_new w (.cells #[.int .i64 0,.int .i64 0,.int .i64 0,.float .f64 0,.string ⟨#[]⟩,.slice none 0 0,.slice none 0 0] 30 (0,0))) (by simp;omega));have HR1:=xhd hR1;have hb1:w.heap.size<w1.heap.size:=(xgl HZ1.out);have hb2:b<w1.heap.size:=by omega
 have hn1:¬w.heap.size=b:=by omega
 clear hR1 hg1
 have hsz2:(wordT l).length≤140737488351240:=by
  have:=HR1.out.size;simp at this;omega
 generalize htx:(⟨(wordT l).toArray⟩:ByteArray)=tx;have htl:tx.data.toList=wordT l:=by rw[←htx]
 have hsz3:tx.size≤140737488351240:=by rw[←htx];show (List.toArray (wordT l)).size≤140737488351240;simpa using hsz2
 obtain⟨Htx,Htl⟩:=xh2 htx htl;clear htx htl
 obtain⟨z0,z1,z2,z3,z4,z5,z6,zf⟩:=zb_cells HZ1.out
 by_cases ht:wordT l=wTrue
 ·have h1:tx.toList=[116,114,117,101]:=by rw[ByteArray.toList_eq,Htl.out];exact ht
  have hres:rdNum pf l odd=some (.bool 1,wordR l,wordO l odd):=by simp only[rdNum,ht,if_true]
  have Ht:=xhd ht;clear ht
  go_wp2_with fail
  refine bodyPost_ret (v:=valOf (.bool 1) nilS nilS) (by simp[results,Tryz.results53,go_sem,valOf,nilS,pvKind,pvInt,pvGen,pvReal,pvText,z0,z1,z2,z3,z4,z5,z6,hn1]) rfl ?_;rw[hres];exact⟨rfl,⟨p++wordT l,(by repeat (first|with_reducible exact HR1.out|with_reducible apply RdAt.alloc|with_reducible apply RdAt.set4|((with_reducible refine RdAt.setO ?_ ?_ _ _);rotate_left;(first|omega|(simp;omega)))))⟩,(by repeat (first|with_reducible exact HG1.out|with_reducible apply gr_alloc|with_reducible apply gr_drewN|with_reducible apply gr_drew|with_reducible apply gr_set|((with_reducible refine gr_setM ?_ ?_ _ _);rotate_left;(first|omega|(simp;omega)))))⟩
 ·by_cases hf:wordT l=wFalse
  ·have h1:(tx.toList==[116,114,117,101])=false:=by rw[ByteArray.toList_eq,Htl.out];exact beq_eq_false_iff_ne.2 ht
   have h2:tx.toList=[102,97,108,115,101]:=by rw[ByteArray.toList_eq,Htl.out];exact hf
   have hres:rdNum pf l odd=some (.bool 0,wordR l,wordO l odd):=by simp only[rdNum,hf];rfl
   obtain⟨Ht,Hf⟩:=xh2 ht hf;clear ht hf
   go_wp2_with fail
   refine bodyPost_ret (v:=valOf (.bool 0) nilS nilS) (by simp[results,Tryz.results53,go_sem,valOf,nilS,pvKind,pvInt,pvGen,pvReal,pvText,z0,z1,z2,z3,z4,z5,z6,hn1]) rfl ?_;rw[hres];exact⟨rfl,⟨p++wordT l,(by repeat (first|with_reducible exact HR1.out|with_reducible apply RdAt.alloc|with_reducible apply RdAt.set4|((with_reducible refine RdAt.setO ?_ ?_ _ _);rotate_left;(first|omega|(simp;omega)))))⟩,(by repeat (first|with_reducible exact HG1.out|with_reducible apply gr_alloc|with_reducible apply gr_drewN|with_reducible apply gr_drew|with_reducible apply gr_set|((with_reducible refine gr_setM ?_ ?_ _ _);rotate_left;(first|omega|(simp;omega)))))⟩
  ·by_cases hn:wordT l=wNull
   ·have h1:(tx.toList==[116,114,117,101])=false:=by rw[ByteArray.toList_eq,Htl.out];exact beq_eq_false_iff_ne.2 ht
    have h2:(tx.toList==[102,97,108,115,101])=false:=by rw[ByteArray.toList_eq,Htl.out];exact beq_eq_false_iff_ne.2 hf
    have h3:tx.toList=[110,117,108,108]:=by rw[ByteArray.toList_eq,Htl.out];exact hn
    have hres:rdNum pf l odd=some (.null,wordR l,wordO l odd):=by simp only[rdNum,hn];rfl
    obtain⟨Ht,Hf,Hn⟩:=xh3 ht hf hn;clear ht hf hn
    go_wp2_with fail
    refine bodyPost_ret (v:=valOf (.null) nilS nilS) (by simp[results,Tryz.results53,go_sem,valOf,nilS,pvKind,pvInt,pvGen,pvReal,pvText,z0,z1,z2,z3,z4,z5,z6,hn1]) rfl ?_;rw[hres];exact⟨rfl,⟨p++wordT l,(by repeat (first|with_reducible exact HR1.out|with_reducible apply RdAt.alloc|with_reducible apply RdAt.set4|((with_reducible refine RdAt.setO ?_ ?_ _ _);rotate_left;(first|omega|(simp;omega)))))⟩,(by repeat (first|with_reducible exact HG1.out|with_reducible apply gr_alloc|with_reducible apply gr_drewN|with_reducible apply gr_drew|with_reducible apply gr_set|((with_reducible refine gr_setM ?_ ?_ _ _);rotate_left;(first|omega|(simp;omega)))))⟩
   ·have h1:(tx.toList==[116,114,117,101])=false:=by rw[ByteArray.toList_eq,Htl.out];exact beq_eq_false_iff_ne.2 ht
    have h2:(tx.toList==[102,97,108,115,101])=false:=by rw[ByteArray.toList_eq,Htl.out];exact beq_eq_false_iff_ne.2 hf
    have h3:(tx.toList==[110,117,108,108])=false:=by rw[ByteArray.toList_eq,Htl.out];exact beq_eq_false_iff_ne.2 hn
    have hres0:rdNum pf l odd=(if (numF pf (wordT l)).2.2.2≠0 then none else if (numF pf (wordT l)).1≠2 then some (.real (numF pf (wordT l)).2.2.1,wordR l,wordO l odd) else refF pf (numF pf (wordT l)).2.1 (wordT l) (wordR l) (wordO l odd)):=by
     simp only[rdNum,if_neg ht,if_neg hf,if_neg hn]
    obtain⟨Ht,Hf,Hn⟩:=xh3 ht hf hn;clear ht hf hn
    go_wp2_with fail
    refine(number_any pf W0 _ HI.out Hpf.out (by exact HE.out.grown HG1.out (fun k hk=>by injection hk with hk;omega)) tx (wordT l) Htl.out hsz3).mono ?_;rintro e w3⟨rfl,hg3⟩;have HG3:=xhd (gr_then HG1.out hg3 (fun j hj=>by cases hj));have HZ3:=xhd (keep hg3 HZ1.out (by simp));have HR3:=xhd (HR1.out.grown hg3 (by simp));have hb3:w.heap.size<w3.heap.size:=(xgl HZ3.out);have hb4:b<w3.heap.size:=by omega
    clear z0 z1 z2 z3 z4 z5 z6 zf hg3 HG1 HZ1 HR1 hb1 hb2;obtain⟨z0,z1,z2,z3,z4,z5,z6,zf⟩:=zb_cells HZ3.out;obtain⟨⟨gk,gn,gx,st⟩,hN⟩:∃a,numF pf (wordT l)=a:=⟨_,rfl⟩;rw[hN]at hres0⊢;simp only at hres0;unfold numRet numV;rcases xbt (st != 0) with hst|hst
    ·have hres:rdNum pf l odd=none:=by rw[hres0,if_pos (by simpa using hst)]
     obtain⟨Hres0,HN⟩:=xh2 hres0 hN;clear hres0 hN
     go_wp2_with fail
     refine(fail_any _ b s _ _ 0 deep _ ends (by exact HR3.out.alloc _) st).mono ?_;rintro e w4⟨rfl,hR4,hg4⟩;replace hR4:RdAt w4 b s (p++wordT l) (wordR l) st deep (wordO l odd) ends:=hR4;have HG4:=xhd (gr_same (gr_alloc HG3.out _) hg4);have HZ4:=xhd (keep hg4 ((Below.heap_alloc _ _ _ hb3).trans HZ3.out) (by simp;omega));clear z0 z1 z2 z3 z4 z5 z6 zf hg4;obtain⟨z0,z1,z2,z3,z4,z5,z6,zf⟩:=zb_cells HZ4.out;have HR4:=xhd hR4;clear hR4
     unfold zeroV;go_wp2_with fail
     refine bodyPost_ret (v:=zeroV) (by simp[results,Tryz.results53,go_sem,zeroV,z0,z1,z2,z3,z4,z5,z6,hn1]) rfl ?_;rw[hres];exact⟨rfl,⟨p++wordT l,wordR l,wordO l odd,st,by simpa using hst,(by repeat (first|with_reducible exact HR4.out|with_reducible apply RdAt.alloc|with_reducible apply RdAt.set4|((with_reducible refine RdAt.setO ?_ ?_ _ _);rotate_left;(first|omega|(simp;omega)))))⟩,(by repeat (first|with_reducible exact HG4.out|with_reducible apply gr_alloc|with_reducible apply gr_drewN|with_reducible apply gr_drew|with_reducible apply gr_set|((with_reducible refine gr_setM ?_ ?_ _ _);rotate_left;(first|omega|(simp;omega)))))⟩
    ·obtain rfl:st=0:=by simpa using hst
     rcases xbt (gk != 2) with hgk|hgk
     ·have hres:rdNum pf l odd=some (.real gx,wordR l,wordO l odd):=by rw[hres0,if_neg (by simp),if_pos (by simpa using hgk)]
      obtain⟨rfl,rfl⟩:gk=3∧gn=0:=by
       rcases numF_kind hN with h|h
       ·exact h
       ·simp[h.1]at hgk
      obtain⟨Hres0,HN⟩:=xh2 hres0 hN;clear hres0 hN
      go_wp2_with fail
      refine bodyPost_ret (v:=valOf (.real gx) nilS nilS) (by simp[results,Tryz.results53,go_sem,valOf,nilS,pvKind,pvInt,pvGen,pvReal,pvText,z0,z1,z2,z3,z4,z5,z6,hn1,hb3]) rfl ?_;rw[hres];exact⟨rfl,⟨p++wordT l,(by repeat (first|with_reducible exact HR3.out|with_reducible apply RdAt.alloc|with_reducible apply RdAt.set4|((with_reducible refine RdAt.setO ?_ ?_ _ _);rotate_left;(first|omega|(simp;omega)))))⟩,(by repeat (first|with_reducible exact HG3.out|with_reducible apply gr_alloc|with_reducible apply gr_drewN|with_reducible apply gr_drew|with_reducible apply gr_set|((with_reducible refine gr_setM ?_ ?_ _ _);rotate_left;(first|omega|(simp;omega)))))⟩
     ·obtain rfl:gk=2:=by simpa using hgk
      have hres:rdNum pf l odd=refF pf gn (wordT l) (wordR l) (wordO l odd):=by rw[hres0,if_neg (by simp),if_neg (by simp)]
      obtain rfl:gx=0:=by
       rcases numF_kind hN with h|h
       ·exact absurd h.1 (by decide)
       ·exact h.2
      obtain⟨Hres0,HN⟩:=xh2 hres0 hN;clear hres0 hN
      go_wp2_with fail
      refine(ref_any pf W0 _ HI.out Hpf.out (by exact HE.out.grown (gr_alloc HG3.out _) (fun k hk=>by injection hk with hk;omega)) b s _ _ deep _ ends (by exact HR3.out.alloc _) hs hW0 gn tx (wordT l) Htl.out HN.out).mono ?_;intro e w4 hP
      cases hr:refF pf gn (wordT l) (wordR l) (wordO l odd) with
      | none =>
       rw[hr]at hP hres;obtain⟨rfl,⟨p4,l4,o4,hR4⟩,hg4⟩:=hP;have HG4:=xhd (gr_same (gr_alloc HG3.out _) hg4);have HZ4:=xhd (keep hg4 ((Below.heap_alloc _ _ _ hb3).trans HZ3.out) (by simp;omega));clear z0 z1 z2 z3 z4 z5 z6 zf hg4 hr;obtain⟨z0,z1,z2,z3,z4,z5,z6,zf⟩:=zb_cells HZ4.out;have HR4:=xhd hR4;clear hR4
       unfold zeroV;go_wp2_with fail
       refine bodyPost_ret (v:=zeroV) (by simp[results,Tryz.results53,go_sem,zeroV,z0,z1,z2,z3,z4,z5,z6,hn1]) rfl ?_;rw[hres];exact⟨rfl,⟨p4,l4,o4,2,by decide,(by repeat (first|with_reducible exact HR4.out|with_reducible apply RdAt.alloc|with_reducible apply RdAt.set4|((with_reducible refine RdAt.setO ?_ ?_ _ _);rotate_left;(first|omega|(simp;omega)))))⟩,(by repeat (first|with_reducible exact HG4.out|with_reducible apply gr_alloc|with_reducible apply gr_drewN|with_reducible apply gr_drew|with_reducible apply gr_set|((with_reducible refine gr_setM ?_ ?_ _ _);rotate_left;(first|omega|(simp;omega)))))⟩
      | some r =>
       obtain⟨x,r,o⟩:=r;rw[hr]at hP hres;obtain⟨rfl,⟨p4,hR4⟩,hg4⟩:=hP;have HG4:=xhd (gr_same (gr_alloc HG3.out _) hg4);have HZ4:=xhd (keep hg4 ((Below.heap_alloc _ _ _ hb3).trans HZ3.out) (by simp;omega));clear z0 z1 z2 z3 z4 z5 z6 zf hg4 hr;obtain⟨z0,z1,z2,z3,z4,z5,z6,zf⟩:=zb_cells HZ4.out;have HR4:=xhd hR4;clear hR4
       unfold valOf nilS;go_wp2_with fail
       refine bodyPost_ret (v:=valOf x nilS nilS) (by simp[results,Tryz.results53,go_sem,valOf,nilS,z0,z1,z2,z3,z4,z5,z6,hn1]) rfl ?_;rw[hres];exact⟨rfl,⟨p4,(by repeat (first|with_reducible exact HR4.out|with_reducible apply RdAt.alloc|with_reducible apply RdAt.set4|((with_reducible refine RdAt.setO ?_ ?_ _ _);rotate_left;(first|omega|(simp;omega)))))⟩,(by repeat (first|with_reducible exact HG4.out|with_reducible apply gr_alloc|with_reducible apply gr_drewN|with_reducible apply gr_drew|with_reducible apply gr_set|((with_reducible refine gr_setM ?_ ?_ _ _);rotate_left;(first|omega|(simp;omega)))))⟩
def SlAt (S:Nat→Prop)(w:World)(v:Value)(size n:Nat)(cells:List Value):Prop :=
 cells.length=n*size∧∃o cap,v=.slice o n cap∧n≤cap∧cap≤maxLen∧(n=0∨∃b i,o=some ⟨b,i,none⟩∧S b∧∀j u,cells[j]?=some u→w.cell? ⟨b,i+j,none⟩=some u)
theorem SlAt.nil (S:Nat→Prop)(w:World)(size:Nat):SlAt S w nilS size 0 [] :=
 ⟨by simp,none,0,rfl,Nat.le_refl _,by unfold maxLen;omega,.inl rfl⟩
theorem SlAt.keep {S S':Nat→Prop}{w w':World}(hS:∀k,S k→S' k∧w'.heap[k]?=w.heap[k]?){v:Value}{size n:Nat}{cells:List Value}(h:SlAt S w v size n cells):SlAt S' w' v size n cells:=by
 obtain⟨h1,o,cap,h2,h3,h4,h5⟩:=h;refine⟨h1,o,cap,h2,h3,h4,?_⟩;rcases h5 with h5|⟨b,i,e,hb,hc⟩
 ·exact .inl h5
 ·refine .inr ⟨b,i,e,(hS b hb).1,fun j u hj=>?_⟩
  exact(World.cell?_of_block (hS b hb).2).trans (hc j u hj)
theorem SlAt.of_row {w:World}{base:Nat}{e:TypeId}{size:Nat}{v:Value}{n:Nat}{cells:List Value}(h:w.ownsRow base e size v n cells)(S:Nat→Prop)(hS:∀k,v.ownBlock=some k→S k):SlAt S w v size n cells:=by
 obtain⟨h1,h2⟩:=h;rcases h2 with⟨rfl,rfl⟩|⟨g,cap,cur,rfl,hb,hg,hc,hm,hs,ht⟩
 ·have:cells=[]:=List.eq_nil_of_length_eq_zero (by simpa using h1)
  subst this;exact SlAt.nil _ _ _
 ·refine⟨h1,_,cap,rfl,hc,hm,.inr ⟨g,0,rfl,hS g rfl,fun j u hj=>?_⟩⟩
  have hj2:cur.toList[j]?=some u:=by
   rw[←ht,List.getElem?_take]at hj
   split at hj
   ·exact hj
   ·simp at hj
  have hj3:cur[j]?=some u:=by simpa using hj2
  simp[World.cell?,hg,hj3]
def kvals (l:List By):List Value:=l.map fun k=>.string ⟨k.toArray⟩
def c7 (x:PV)(ks vs:Value):List Value:=[.int .i64 (pvKind x),.int .i64 (pvInt x),.int .i64 (pvGen x),.float .f64 (pvReal x),.string ⟨(pvText x).toArray⟩,ks,vs]
mutual
def IsV (S:Nat→Prop)(w:World):PV→Value→Value→Prop
 | .arr kids,ks,vs=>SlAt S w ks 1 0 []∧∃cells,SlAt S w vs 7 kids.length cells∧IsVs S w kids cells
 | .dict keys kids,ks,vs=>SlAt S w ks 1 keys.length (kvals keys)∧∃cells,SlAt S w vs 7 kids.length cells∧IsVs S w kids cells
 | _,ks,vs=>SlAt S w ks 1 0 []∧SlAt S w vs 7 0 []
def IsVs (S:Nat→Prop)(w:World):List PV→List Value→Prop
 | [],cells=>cells=[]
 | x::xs,cells=>∃ks vs rest,cells=c7 x ks vs++rest∧IsV S w x ks vs∧IsVs S w xs rest
end
mutual
theorem IsV.keep {S S':Nat→Prop}{w w':World}(hS:∀k,S k→S' k∧w'.heap[k]?=w.heap[k]?):∀(x:PV) (ks vs:Value),IsV S w x ks vs→IsV S' w' x ks vs
 | .arr kids,ks,vs,h=>by
  simp only[IsV]at h⊢;obtain⟨h1,cells,h2,h3⟩:=h;exact⟨h1.keep hS,cells,h2.keep hS,IsVs.keep hS kids cells h3⟩
 | .dict keys kids,ks,vs,h=>by
  simp only[IsV]at h⊢;obtain⟨h1,cells,h2,h3⟩:=h;exact⟨h1.keep hS,cells,h2.keep hS,IsVs.keep hS kids cells h3⟩
 | .null,ks,vs,h=>by simp only[IsV]at h⊢;exact⟨h.1.keep hS,h.2.keep hS⟩
 | .bool _,ks,vs,h=>by simp only[IsV]at h⊢;exact⟨h.1.keep hS,h.2.keep hS⟩
 | .int _,ks,vs,h=>by simp only[IsV]at h⊢;exact⟨h.1.keep hS,h.2.keep hS⟩
 | .real _,ks,vs,h=>by simp only[IsV]at h⊢;exact⟨h.1.keep hS,h.2.keep hS⟩
 | .str _,ks,vs,h=>by simp only[IsV]at h⊢;exact⟨h.1.keep hS,h.2.keep hS⟩
 | .name _,ks,vs,h=>by simp only[IsV]at h⊢;exact⟨h.1.keep hS,h.2.keep hS⟩
 | .ref _ _,ks,vs,h=>by simp only[IsV]at h⊢;exact⟨h.1.keep hS,h.2.keep hS⟩
theorem IsVs.keep {S S':Nat→Prop}{w w':World}(hS:∀k,S k→S' k∧w'.heap[k]?=w.heap[k]?):∀(xs:List PV) (cells:List Value),IsVs S w xs cells→IsVs S' w' xs cells
 | [],cells,h=>by simp only[IsVs]at h⊢;exact h
 | x::xs,cells,h=>by
  simp only[IsVs]at h⊢;obtain⟨ks,vs,rest,h1,h2,h3⟩:=h;exact⟨ks,vs,rest,h1,IsV.keep hS x ks vs h2,IsVs.keep hS xs rest h3⟩
end
theorem IsVs.append {S:Nat→Prop}{w:World}{ys:List PV}{d:List Value}(hy:IsVs S w ys d):∀(xs:List PV) (c:List Value),IsVs S w xs c→IsVs S w (xs++ys) (c++d)
 | [],c,h=>by simp only[IsVs]at h;subst h;simpa using hy
 | x::xs,c,h=>by
  simp only[IsVs,List.cons_append]at h⊢;obtain⟨ks,vs,rest,h1,h2,h3⟩:=h;exact⟨ks,vs,rest++d,by rw[h1,List.append_assoc],h2,IsVs.append hy xs rest h3⟩
theorem IsVs.one {S:Nat→Prop}{w:World}{x:PV}{ks vs:Value}(h:IsV S w x ks vs):IsVs S w [x] (c7 x ks vs):=by
 simp only[IsVs];exact⟨ks,vs,[],by simp,h,rfl⟩
theorem IsV.plain {S:Nat→Prop}{w:World}{x:PV}(h:match x with | .arr _=>False | .dict _ _=>False|_=>True):IsV S w x nilS nilS:=by
 cases x<;>first|exact h.elim|(simp only[IsV];exact⟨SlAt.nil _ _ _,SlAt.nil _ _ _⟩)
def Shape7 (v:Value):Prop:=∃k n g x t o1 n1 c1 o2 n2 c2,v=.agg #[.int .i64 k,.int .i64 n,.int .i64 g,.float .f64 x,.string t,.slice o1 n1 c1,.slice o2 n2 c2]
def VPost (w w':World)(b:Nat)(s:ByteArray)(deep:Int)(ends:Bool)(e:Ending):Rd PV→Prop
 | some (x,r,o)=>∃(ks vs:Value) (S:Nat→Prop),e=.returned (valOf x ks vs)∧IsV S w' x ks vs∧(∀k,S k→w.heap.size≤k∧k<w'.heap.size)∧(∃p',RdAt w' b s p' r 0 deep o ends)∧w.grownBy w' (some b)
 | none=>∃v,e=.returned v∧Shape7 v∧(∃p' l' o' bad en',bad≠0∧RdAt w' b s p' l' bad deep o' en')∧w.grownBy w' (some b)
def ValC (pf:By→Nat)(W0:World)(n:Nat):Prop:=∀(w:World) (b:Nat) (s:ByteArray) (p l:By) (odd ends:Bool),Env W0 w→W0.heap.size≤b→s.size≤1000000000→RdAt w b s p l 0 (50-n) odd ends→n≤50 →
 Calls Tryz.prog 28 #[.pointer (some ⟨b,0,none⟩)] w fun e w'=>VPost w w' b s (50-n) ends e (rdV pf n l odd)
theorem IsV.slices {S:Nat→Prop}{w:World}{x:PV}{ks vs:Value}(h:IsV S w x ks vs):(∃o n c,ks=.slice o n c)∧∃o n c,vs=.slice o n c:=by
 cases x<;>simp only[IsV]at h
 case arr =>
  obtain⟨⟨_,o,c,rfl,_⟩,cells,⟨_,o2,c2,rfl,_⟩,_⟩:=h;exact⟨⟨_,_,_,rfl⟩,_,_,_,rfl⟩
 case dict =>
  obtain⟨⟨_,o,c,rfl,_⟩,cells,⟨_,o2,c2,rfl,_⟩,_⟩:=h;exact⟨⟨_,_,_,rfl⟩,_,_,_,rfl⟩
 all_goals
  obtain⟨⟨_,o,c,rfl,_⟩,⟨_,o2,c2,rfl,_⟩⟩:=h;exact⟨⟨_,_,_,rfl⟩,_,_,_,rfl⟩
theorem Tryz.info30:(Tryz.prog.info? 30).map (fun i=>(i.zero,i.size,i.bytes))=some (some (.agg #[.int .i64 0,.int .i64 0,.int .i64 0,.float .f64 0,.string ⟨#[]⟩,.slice none 0 0,.slice none 0 0]),7,96):=by kernel_rfl
def AB (k:Int)(ks vs:Value):Obj:=.cells #[.int .i64 k,.int .i64 0,.int .i64 0,.float .f64 0,.string ⟨#[]⟩,ks,vs] 30 (0,0)
theorem alloc2 (w:World)(n:Nat)(hw:w.heap.size=n)(o1 o2:Obj):((w.alloc o1).alloc o2).heap[n]?=some o1∧((w.alloc o1).alloc o2).heap[n+1]?=some o2:=by
 subst hw;have s1:(w.alloc o1).heap.size=w.heap.size+1:=by simp
 refine⟨?_,?_⟩
 ·rw[Below.heap_alloc _ _ _ (by omega)];exact heap_alloc_new w o1
 ·rw[←s1];exact heap_alloc_new _ o2
structure ColX (w wr:World)(b:Nat)(kv vs:Value)(keys:List By)(acc:List PV)(S:Nat→Prop)(cells:List Value):Prop where
 hG:w.grownBy wr (some b)
 hZ:wr.heap[w.heap.size]?=some (.cells #[.int .i64 0,.int .i64 0,.int .i64 0,.float .f64 0,.string ⟨#[]⟩,.slice none 0 0,.slice none 0 0] 30 (0,0))
 hK:wr.ownsRow (w.heap.size+2) 9 1 kv keys.length (kvals keys)
 hO:wr.ownsRow (w.heap.size+2) 30 7 vs acc.length cells
 hI:IsVs S wr acc cells
 hS:∀k,S k→w.heap.size+2≤k∧k<wr.heap.size∧vs.ownBlock≠some k∧kv.ownBlock≠some k
 hKO:∀k,kv.ownBlock=some k→vs.ownBlock≠some k
 hb:b<w.heap.size
structure ColG (w wr:World)(b:Nat)(kd:Int)(kv vs:Value)(keys:List By)(acc:List PV)(S:Nat→Prop)(cells:List Value):Prop extends ColX w wr b kv vs keys acc S cells where
 hA:wr.heap[w.heap.size+1]?=some (AB kd kv vs)
theorem row_keptB {w w':World}{base:Nat}{e:TypeId}{size:Nat}{v:Value}{n:Nat}{xs:List Value}(h:w.ownsRow base e size v n xs){r:Option Nat}(hg:w.grownBy w' r)(hr:∀k,v.ownBlock=some k→r≠some k):w'.ownsRow base e size v n xs:=by
 refine World.ownsRow.kept h hg ?_
 cases hv:v.ownBlock with
 | none=>exact .inl rfl
 | some k=>right;exact fun e=>hr k hv e.symm
theorem gr_alloc_then {w w':World}{o:Obj}{r:Option Nat}(hgrow:(w.alloc o).grownBy w' r):w.grownBy w' r:=by
 have h0:w.grownBy (w.alloc o) r:=gr_alloc (xgr _ _) _;exact⟨hgrow.os.trans h0.os,hgrow.tape.trans h0.tape,hgrow.output.trans h0.output,Nat.le_trans h0.size hgrow.size,fun k hk hkb=>(hgrow.block k (by have:=h0.size;omega) hkb).trans (h0.block k hk hkb)⟩
section
variable {w wr:World} {b:Nat} {kd:Int} {kv vs:Value} {keys:List By} {acc:List PV} {S:Nat→Prop} {cells:List Value}
theorem ColX.other (h:ColX w wr b kv vs keys acc S cells){w':World}{r:Option Nat}(hg:wr.grownBy w' r)(hr:∀k,r=some k→k=b∨k=w.heap.size+1)(hG':w.grownBy w' (some b)):ColX w w' b kv vs keys acc S cells:=by
 have hb:=h.hb;refine⟨hG',keep hg h.hZ (fun e=>by have:=hr _ e.symm;omega),?_,?_,?_,?_,h.hKO,hb⟩
 ·refine row_keptB h.hK hg (fun k hk e=>?_)
  have:=(World.ownsRow.lt h.hK k hk).1;have:=hr _ e;omega
 ·refine row_keptB h.hO hg (fun k hk e=>?_)
  have:=(World.ownsRow.lt h.hO k hk).1;have:=hr _ e;omega
 ·refine IsVs.keep (fun k hk=>⟨hk,hg.block k (h.hS k hk).2.1 (fun e=>?_)⟩) _ _ h.hI
  have:=(h.hS k hk).1;have:=hr _ e.symm;omega
 ·intro k hk
  have:=h.hS k hk;have:=hg.size;exact⟨by omega,by omega,(h.hS k hk).2.2⟩
theorem ColX.step (h:ColX w wr b kv vs keys acc S cells){w':World}(hg:wr.grownBy w' (some b)):ColX w w' b kv vs keys acc S cells :=
 h.other hg (fun k hk=>.inl (by injection hk with hk;exact hk.symm)) (gr_same h.hG hg)
theorem ColX.setA (h:ColX w wr b kv vs keys acc S cells)(i:Nat)(v:Value):ColX w (wr.setCell ⟨w.heap.size+1,i,none⟩ v) b kv vs keys acc S cells :=
 h.other (gr_set (xgr wr (some (w.heap.size+1))) i v) (fun k hk=>.inr (by injection hk with hk;exact hk.symm)) (gr_setM h.hG (by omega) _ _)
theorem ColG.step (h:ColG w wr b kd kv vs keys acc S cells){w':World}(hg:wr.grownBy w' (some b)):ColG w w' b kd kv vs keys acc S cells :=
 ⟨h.toColX.step hg,keep hg h.hA (by have:=h.hb;simp;omega)⟩
theorem ColX.push {w3 w4 w5:World}(h4:ColX w w4 b kv vs keys acc S cells)(hov:∀k,vs.ownBlock=some k→k<w3.heap.size)(hkv:∀k,kv.ownBlock=some k→k<w3.heap.size)(h34:w3.heap.size≤w4.heap.size){x:PV}{ks2 vs2:Value}{S2:Nat→Prop}
  (hV:IsV S2 w4 x ks2 vs2)(hS2:∀k,S2 k→w3.heap.size≤k∧k<w4.heap.size)(hw3:w.heap.size+2≤w3.heap.size){o:Obj}{gg cap:Nat}
  (hown:w5.ownsRow (w.heap.size+2) 30 7 (.slice (some ⟨gg,0,none⟩) (acc.length+1) cap) (acc.length+1) (cells++c7 x ks2 vs2))(hgrow:(w4.alloc o).grownBy w5 vs.ownBlock)(hat:vs.ownBlock=some gg∨w4.heap.size≤gg) :
  ColX w w5 b kv (.slice (some ⟨gg,0,none⟩) (acc.length+1) cap) keys (acc++[x]) (fun k=>S k∨S2 k) (cells++c7 x ks2 vs2):=by
 have hb:=h4.hb;have hvl:=World.ownsRow.lt h4.hO;have hkl:=World.ownsRow.lt h4.hK;have hg45:=gr_alloc_then hgrow;have hs45:=hg45.size;refine⟨gr_then h4.hG hg45 (fun j hj=>by have:=(hvl j hj).1;omega),?_,?_,?_,?_,?_,?_,hb⟩
 ·exact keep hg45 h4.hZ (fun e=>by have:=(hvl _ e.symm).1;omega)
 ·exact row_keptB h4.hK hg45 (fun k hk e=>h4.hKO k hk e)
 ·simpa using hown
 ·refine IsVs.append (IsVs.one (IsV.keep (fun k hk=>⟨.inr hk,?_⟩) _ _ _ hV)) _ _ (IsVs.keep (fun k hk=>⟨.inl hk,?_⟩) _ _ h4.hI)
  ·have:=hS2 k hk
   exact hg45.block k this.2 (fun e=>by have:=hov k e.symm;omega)
  ·have:=h4.hS k hk
   exact hg45.block k this.2.1 (fun e=>this.2.2.1 e.symm)
 ·intro k hk
  rcases hk with hk|hk
  ·have:=h4.hS k hk
   refine⟨this.1,by omega,?_,this.2.2.2⟩;intro e;have e:gg=k:=by simpa[Value.ownBlock] using e
   rcases hat with h|h
   ·exact this.2.2.1 (h.trans (by rw[e]))
   ·omega
  ·have:=hS2 k hk
   refine⟨by omega,by omega,?_,fun e=>by have:=hkv k e;omega⟩;intro e;have e:gg=k:=by simpa[Value.ownBlock] using e
   rcases hat with h|h
   ·have:=hov gg h;omega
   ·omega
 ·intro k hk e
  have e:gg=k:=by simpa[Value.ownBlock] using e
  have:=h4.hKO k hk;rcases hat with h|h
  ·exact this (h.trans (by rw[e]))
  ·have:=(hkl k hk).2;omega
theorem ColX.pushKey {w4 w5:World}(h4:ColX w w4 b kv vs keys acc S cells){key:By}{o:Obj}{gg cap:Nat}
  (hown:w5.ownsRow (w.heap.size+2) 9 1 (.slice (some ⟨gg,0,none⟩) (keys.length+1) cap) (keys.length+1) (kvals keys++[.string ⟨key.toArray⟩]))(hgrow:(w4.alloc o).grownBy w5 kv.ownBlock)(hat:kv.ownBlock=some gg∨w4.heap.size≤gg) :
  ColX w w5 b (.slice (some ⟨gg,0,none⟩) (keys.length+1) cap) vs (keys++[key]) acc S cells:=by
 have hb:=h4.hb;have hvl:=World.ownsRow.lt h4.hO;have hkl:=World.ownsRow.lt h4.hK;have hg45:=gr_alloc_then hgrow;have hs45:=hg45.size;refine⟨gr_then h4.hG hg45 (fun j hj=>by have:=(hkl j hj).1;omega),?_,?_,?_,?_,?_,?_,hb⟩
 ·exact keep hg45 h4.hZ (fun e=>by have:=(hkl _ e.symm).1;omega)
 ·simpa[kvals] using hown
 ·exact row_keptB h4.hO hg45 (fun k hk e=>h4.hKO k e hk)
 ·refine IsVs.keep (fun k hk=>⟨hk,?_⟩) _ _ h4.hI
  have:=h4.hS k hk;exact hg45.block k this.2.1 (fun e=>this.2.2.2 e.symm)
 ·intro k hk
  have:=h4.hS k hk;refine⟨this.1,by omega,this.2.2.1,?_⟩;intro e;have e:gg=k:=by simpa[Value.ownBlock] using e
  rcases hat with h|h
  ·exact this.2.2.2 (h.trans (by rw[e]))
  ·omega
 ·intro k hk e
  have hk:gg=k:=by simpa[Value.ownBlock] using hk
  rcases hat with h|h
  ·exact h4.hKO k (h.trans (by rw[hk])) e
  ·have:=(hvl k e).2;omega
theorem ColG.push {w3 w4 w5:World}(h4:ColG w w4 b kd kv vs keys acc S cells)(hov:∀k,vs.ownBlock=some k→k<w3.heap.size)(hkv:∀k,kv.ownBlock=some k→k<w3.heap.size)(h34:w3.heap.size≤w4.heap.size){x:PV}{ks2 vs2:Value}{S2:Nat→Prop}
  (hV:IsV S2 w4 x ks2 vs2)(hS2:∀k,S2 k→w3.heap.size≤k∧k<w4.heap.size)(hw3:w.heap.size+2≤w3.heap.size){o:Obj}{gg cap:Nat}
  (hown:w5.ownsRow (w.heap.size+2) 30 7 (.slice (some ⟨gg,0,none⟩) (acc.length+1) cap) (acc.length+1) (cells++c7 x ks2 vs2))(hgrow:(w4.alloc o).grownBy w5 vs.ownBlock)(hat:vs.ownBlock=some gg∨w4.heap.size≤gg) :
  ColG w (w5.setCell ⟨w.heap.size+1,6,none⟩ (.slice (some ⟨gg,0,none⟩) (acc.length+1) cap)) b kd kv (.slice (some ⟨gg,0,none⟩) (acc.length+1) cap) keys (acc++[x]) (fun k=>S k∨S2 k) (cells++c7 x ks2 vs2):=by
 have hvl:=World.ownsRow.lt h4.hO;have hA5:w5.heap[w.heap.size+1]?=some (AB kd kv vs):=keep (gr_alloc_then hgrow) h4.hA (fun e=>by have:=(hvl _ e.symm).1;omega);exact⟨(h4.toColX.push (w3:=w3) hov hkv h34 hV hS2 hw3 hown hgrow hat).setA _ _,by simp[World.setCell,Array.getElem?_modify,hA5,AB]⟩
theorem ColG.bad {w4 w5:World}(h4:ColG w w4 b kd kv vs keys acc S cells){o:Obj}(hgrow:(w4.alloc o).grownBy w5 vs.ownBlock)(v:Value) :
  w.grownBy (w5.setCell ⟨w.heap.size+1,6,none⟩ v) (some b)∧(w5.setCell ⟨w.heap.size+1,6,none⟩ v).heap[w.heap.size]?=some (.cells #[.int .i64 0,.int .i64 0,.int .i64 0,.float .f64 0,.string ⟨#[]⟩,.slice none 0 0,.slice none 0 0] 30 (0,0))∧(w5.setCell ⟨w.heap.size+1,6,none⟩ v).heap[w.heap.size+1]?=some (AB kd kv v):=by
 have hb:=h4.hb;have hvl:=World.ownsRow.lt h4.hO;have hg45:=gr_alloc_then hgrow;have hA5:w5.heap[w.heap.size+1]?=some (AB kd kv vs):=keep hg45 h4.hA (fun e=>by have:=(hvl _ e.symm).1;omega);refine⟨gr_setM (gr_then h4.hG hg45 (fun j hj=>by have:=(hvl j hj).1;omega)) (by omega) _ _,?_,?_⟩
 ·rw[Below.heap_setCell _ _ _ _ (by simp)];exact keep hg45 h4.hZ (fun e=>by have:=(hvl _ e.symm).1;omega)
 ·simp[World.setCell,Array.getElem?_modify,hA5,AB]
theorem ColX.isV (h:ColX w wr b kv vs keys acc S cells):IsV (fun k=>S k∨vs.ownBlock=some k) wr (.arr acc) nilS vs:=by
 simp only[IsV];exact⟨SlAt.nil _ _ _,cells,SlAt.of_row h.hO _ (fun k hk=>.inr hk),IsVs.keep (fun k hk=>⟨.inl hk,rfl⟩) _ _ h.hI⟩
theorem ColX.isD (h:ColX w wr b kv vs keys acc S cells):IsV (fun k=>S k∨vs.ownBlock=some k∨kv.ownBlock=some k) wr (.dict keys acc) kv vs:=by
 simp only[IsV];exact⟨SlAt.of_row h.hK _ (fun k hk=>.inr (.inr hk)),cells,SlAt.of_row h.hO _ (fun k hk=>.inr (.inl hk)),IsVs.keep (fun k hk=>⟨.inl hk,rfl⟩) _ _ h.hI⟩
theorem ColX.bound (h:ColX w wr b kv vs keys acc S cells)(k:Nat)(hk:S k∨vs.ownBlock=some k):w.heap.size+2≤k∧k<wr.heap.size:=by
 rcases hk with hk|hk
 ·exact⟨(h.hS k hk).1,(h.hS k hk).2.1⟩
 ·exact World.ownsRow.lt h.hO k hk
theorem ColX.boundD (h:ColX w wr b kv vs keys acc S cells)(k:Nat)(hk:S k∨vs.ownBlock=some k∨kv.ownBlock=some k):w.heap.size+2≤k∧k<wr.heap.size:=by
 rcases hk with hk|hk|hk
 ·exact⟨(h.hS k hk).1,(h.hS k hk).2.1⟩
 ·exact World.ownsRow.lt h.hO k hk
 ·exact World.ownsRow.lt h.hK k hk
end
def ArrI (w wr:World)(b:Nat)(s:ByteArray)(deep:Int)(ends:Bool)(f:By→Bool→Rd PV)(R:Rd (List PV))(g:Nat):Prop :=
 (∃so sn sc p' l' o' m acc S cells,ColG w wr b 6 (.slice none 0 0) (.slice so sn sc) [] acc S cells∧g=l'.length+1∧l'.length≤m∧acc.length+l'.length≤s.size∧rdArr f m l' o' acc=R∧RdAt wr b s p' l' 0 deep o' ends)
 ∨ (R=none∧g=0∧w.grownBy wr (some b)∧wr.heap[w.heap.size]?=some (.cells #[.int .i64 0,.int .i64 0,.int .i64 0,.float .f64 0,.string ⟨#[]⟩,.slice none 0 0,.slice none 0 0] 30 (0,0))∧(∃so sn sc,wr.heap[w.heap.size+1]?=some (AB 6 (.slice none 0 0) (.slice so sn sc)))∧∃p' l' o' bad en',bad≠0∧RdAt wr b s p' l' bad deep o' en')
theorem pre1 (n:UInt8)(l:By):[n].isPrefixOf l=headIs l (· == (n.toNat:Int)):=by
 cases l with
 | nil=>rfl
 | cons c l =>
  simp only[List.isPrefixOf,headIs,Bool.and_true];rw[Bool.eq_iff_iff];simp only[beq_iff_eq]
  constructor
  ·intro e;rw[e]
  ·intro e;apply UInt8.toNat_inj.1;omega
theorem rdArr_some {f:By→Bool→Rd PV}{m:Nat}{l la:By}{o oa:Bool}{acc:List PV}{x:PV}{r:By}{o2:Bool}(h1:passM false l o=(la,oa))(h2:headIs la (· == 93)=false)(h3:f la oa=some (x,r,o2)) :
  rdArr f (m+1) l o acc=rdArr f m r o2 (acc++[x]):=by
 simp only[rdArr,h1,h2,h3];rfl
theorem rdArr_none {f:By→Bool→Rd PV}{m:Nat}{l la:By}{o oa:Bool}{acc:List PV}(h1:passM false l o=(la,oa))(h2:headIs la (· == 93)=false)(h3:f la oa=none) :
  rdArr f m l o acc=none:=by
 cases m with
 | zero=>rfl
 | succ m=>simp only[rdArr,h1,h2,h3];rfl
theorem arr_any (pf:By→Nat)(W0 w:World)(hE:Env W0 w)(b:Nat)(s:ByteArray)(p l:By)(c0':UInt8)(n:Nat)(hn:n≤50)(hV:ValC pf W0 n)(odd ends:Bool)(hR:RdAt w b s p (c0'::l) 0 (50-n) odd ends)(hs:s.size≤1000000000)
  (hW0:W0.heap.size≤b) :
  Calls Tryz.prog 51 #[.pointer (some ⟨b,0,none⟩)] w fun e w'=>VPost w w' b s (50-n) ends e ((rdArr (rdV pf n) l.length l odd []).map fun r=>(.arr r.1,r.2)):=by
 have HR:=xhd hR;have hbB:=hR.lt;have hsz:=hR.size;obtain⟨c0,c1,c2,c3,c4,c5,cf⟩:=hR.cells;obtain⟨ti,hti,htz0,htz1,htz2⟩:=info_parts Tryz.info30;obtain⟨HE,HV⟩:=xh2 hE hV;clear hE hV
 clear hR;obtain⟨deep,hdeep⟩:∃deep:Int,deep=50-n:=⟨_,rfl⟩;rw[←hdeep]at HR c3⊢;have Hdeep:=xhd hdeep;clear hdeep
 generalize hRR:rdArr (rdV pf n) l.length l odd []=R;have HRR:=xhd hRR;clear hRR
 have hp1:p.length+1≤s.size:=by simp at hsz;omega
 have Hsz:=xhd hsz;clear hsz;go_enter Tryz.func51,Tryz.ntmps51;go_wp2_with fail
 go_loopg [] (l.length+1) (fun g wr=>ArrI w wr b s deep ends (rdV pf n) R g)
 case atStart =>
  refine .inl ⟨none,0,0,p++[c0'],l,odd,l.length,[],fun _=>False,[],⟨⟨(by repeat (first|with_reducible exact xgr w (some b)|with_reducible apply gr_alloc|with_reducible apply gr_drewN|with_reducible apply gr_drew|with_reducible apply gr_set|((with_reducible refine gr_setM ?_ ?_ _ _);rotate_left;(first|omega|(simp;omega))))),?_,World.ownsRow_nil _ _ _ _,World.ownsRow_nil _ _ _ _,by simp only[IsVs],fun k hk=>hk.elim,(fun k hk=>by cases hk),hbB⟩,?_⟩,rfl,Nat.le_refl _,?_,HRR.out,?_⟩
  ·exact(alloc2 (w.setCell ⟨b,1,none⟩ (.int .i64 (p.length+1))) w.heap.size (by simp) _ _).1
  ·exact(alloc2 (w.setCell ⟨b,1,none⟩ (.int .i64 (p.length+1))) w.heap.size (by simp) _ _).2
  ·have:=Hsz.out;simp at this⊢;omega
  ·exact(HR.out.set1.alloc _).alloc _
 case round =>
  clear HR c0 c1 c2 c3 c4 c5 cf;rcases hrel with⟨so,sn,sc,p',l',o',m,acc,S,cells,hAG,hg,hm,hacc,hF,hR⟩|⟨hRn,hg,hG,hZ,⟨so,sn,sc,hA⟩,p',l',o',bad,en',hbad,hR⟩
  ·obtain⟨c0,c1,c2,c3,c4,c5,cf⟩:=hR.cells
   obtain⟨HR,HAG,Hg,Hm,Hacc,HF⟩:=xh6 hR hAG hg hm hacc hF;clear hR hAG hg hm hacc hF
   go_wp2_with fail
   refine(pass_any _ b s p' l' 0 deep o' ends (by exact HR.out) (by omega)).mono ?_;rintro e w1⟨rfl,⟨p1,hR1⟩,hg1⟩;have HAG1:=xhd (HAG.out.step hg1);have hlp:=passM_len false l' o';clear hg1 c0 c1 c2 c3 c4 c5 cf HR HAG;generalize hPM:passM false l' o'=a at hR1 hlp;obtain⟨la,oa⟩:=a;simp only at hR1 hlp;obtain⟨HR1,Hlp⟩:=xh2 hR1 hlp;clear hlp
   go_wp2_with fail
   refine(is_any _ b s p1 la 0 deep oa ends (by exact HR1.out) (by omega) ⟨#[93]⟩ (by decide)).mono ?_;rintro e w2⟨rfl,n2,hw2⟩;have HAG2:=xhd (HAG1.out.step (w':=w2) (by rw[hw2];exact gr_drewN (xgr _ _) _));have HR2:=xhd (show RdAt w2 b s p1 la 0 deep oa ends by rw[hw2];exact HR1.out);clear HAG1 HR1 hw2 hR1;obtain⟨c0,c1,c2,c3,c4,c5,cf⟩:=HR2.out.cells;obtain⟨z0,z1,z2,z3,z4,z5,z6,zf⟩:=zb_cells HAG2.out.hZ;obtain⟨v0,v1,v2,v3,v4,v5,v6,vf⟩:=cells7 HAG2.out.hA;have hb2:w.heap.size+1<w2.heap.size:=(Array.getElem?_eq_some_iff.1 HAG2.out.hA).1;have hb1:w.heap.size<w2.heap.size:=by omega
   have hpre:(⟨#[93]⟩:ByteArray).data.toList.isPrefixOf la=headIs la (· == 93):=pre1 93 la;rw[hpre];have hn1:¬w.heap.size=b:=by omega
   have hn2:¬w.heap.size+1=b:=by omega
   have hk1:p1.length+la.length=s.size:=by have:=HR2.out.size;omega
   rcases xbt (headIs la (· == 93)) with hh|hh
   ·rw[hh]
    obtain⟨c,l2,hla⟩:∃c l2,la=c::l2:=by cases la with|nil=>simp[headIs]at hh|cons c l2=>exact⟨c,l2,rfl⟩
    have hres:R=some (acc,l2,oa):=by
     rw[←HF.out];have hm1:=Hm.out;have:=Hlp.out;rw[hla]at this;simp only[List.length_cons]at this;obtain⟨m',rfl⟩:∃m',m=m'+1:=⟨m-1,by omega⟩;simp only[rdArr,hPM,hh,if_true];rw[hla];rfl
    subst hla;obtain⟨Hres,HPM⟩:=xh2 hres hPM;clear hres hPM
    have hk2:p1.length+1≤s.size:=by simp at hk1;omega
    clear hk1;go_wp2_with fail
    refine bodyPost_ret (v:=valOf (.arr acc) nilS (.slice so sn sc)) (by simp[results,Tryz.results51,go_sem,valOf,nilS,pvKind,pvInt,pvGen,pvReal,pvText,z0,z1,z2,z3,z4,z5,z6,hn1,hn2]) rfl ?_;rw[Hres.out];refine⟨nilS,.slice so sn sc,fun k=>S k∨(Value.slice so sn sc).ownBlock=some k,rfl,?_,?_,⟨p1++[c],(by repeat (first|with_reducible exact HR2.out.set1|with_reducible apply RdAt.alloc|with_reducible apply RdAt.set4|((with_reducible refine RdAt.setO ?_ ?_ _ _);rotate_left;(first|omega|(simp;omega)))))⟩,(by repeat (first|with_reducible exact HAG2.out.hG|with_reducible apply gr_alloc|with_reducible apply gr_drewN|with_reducible apply gr_drew|with_reducible apply gr_set|((with_reducible refine gr_setM ?_ ?_ _ _);rotate_left;(first|omega|(simp;omega)))))⟩
    ·have hV2:IsV (fun k=>S k∨(Value.slice so sn sc).ownBlock=some k) w2 (.arr acc) nilS (.slice so sn sc):=HAG2.out.isV
     refine IsV.keep (fun k hk=>⟨hk,?_⟩) _ _ _ hV2;have hk2:=HAG2.out.bound k hk;have:=HAG2.out.hb
     repeat rw[Below.heap_setCell _ _ _ _ (by first|omega|(simp;omega))]
    ·intro k hk
     have hk2:=HAG2.out.bound k hk;simp;omega
   ·rw[hh]
    obtain⟨Hk1,Hh,HPM⟩:=xh3 hk1 hh hPM;clear hh hPM
    clear hk1
    cases ends
    ·go_wp2_with fail
     (refine wp_region_quiet_tail 18 (by kernel_rfl) (by kernel_rfl) ?_;simp only[List.take_succ_cons,List.take_zero,List.drop_succ_cons,List.drop_zero];(repeat (go_big_quiet_step (fail)));refine wpQuiet_nil ?_;intro _ hwt;obtain⟨nt,hwt'⟩:=hwt;subst hwt';go_wp2_with fail)
     have HAG3:=xhd (HAG2.out.step (gr_set (gr_drewN (xgr w2 (some b)) nt) 5 (.bool (decide (s.size≤p1.length)))));have HR3:=xhd ((HR2.out.drewN nt).set5 (decide (s.size≤p1.length)));obtain⟨w3,hw3⟩:∃w3,w3=(w2.drewN nt).setCell ⟨b,5,none⟩ (.bool (decide (s.size≤p1.length))):=⟨_,rfl⟩;rw[←hw3]at HAG3 HR3⊢;clear hw3 HAG2 HR2 c0 c1 c2 c3 c4 c5 cf z0 z1 z2 z3 z4 z5 z6 zf v0 v1 v2 v3 v4 v5 v6 vf hb1 hb2;obtain⟨v0,v1,v2,v3,v4,v5,v6,vf⟩:=cells7 HAG3.out.hA;have hacc2:acc.length+1≤1000000001:=by have:=Hacc.out;omega
     have hrow:∀k,(Value.slice so sn sc).ownBlock=some k→w.heap.size+2≤k∧k<w3.heap.size:=World.ownsRow.lt HAG3.out.hO;have Hrow:=xhd hrow;clear hrow
     cases hrv:rdV pf n la oa with
     | none =>
      have Hrv:=xhd hrv;clear hrv
      go_region_law
       (first
        | (go_simp;go_at_call 28;refine(HV.out _ b s p1 la oa (decide (s.size≤p1.length)) (by exact HE.out.grown (gr_drew HAG3.out.hG) (fun k hk=>by injection hk with hk;omega)) hW0 hs (by rw[←Hdeep.out];exact HR3.out) hn).mono ?_;intro e w4 hP;rw[Hrv.out]at hP;obtain⟨vv,rfl,⟨xk,xn,xg,xx,xt,ko,kn,kc,vo,vn,vc,rfl⟩,⟨p4,l4,o4,bad4,en4,hbad4,hR4⟩,hg4⟩:=hP;have HAG4:=xhd (HAG3.out.step (gr_same (gr_drew (xgr w3 (some b))) hg4));have hA4:=(cells7 HAG4.out.hA).2.2.2.2.2.2.1;have hb4:w.heap.size+1<w4.heap.size:=(Array.getElem?_eq_some_iff.1 HAG4.out.hA).1;have HR4:=xhd hR4;have Hg4:=xhd hg4;have Hbad4:=xhd hbad4;clear hR4 hg4 hbad4)
        | (refine step_append_lies _ (by rfl) _ _ _ (by rfl) (w.heap.size+2) 30 ti _ 7 96 Tryz.underlying28 hti htz0 htz1 htz2 rfl (by omega) (.slice so sn sc) acc.length cells (by rfl) (World.ownsRow.alloc HAG4.out.hO _) ⟨w4.heap.size,0,none⟩ 1 1 [.int .i64 xk,.int .i64 xn,.int .i64 xg,.float .f64 xx,.string xt,.slice ko kn kc,.slice vo vn vc] (by rfl) (by rfl) (World.news_of_block (heap_alloc_new w4 _)) (by simp[Value.oneCell']) (by omega) (by unfold maxLen;omega) (by omega) (by simp;omega) (w4.heap.size+1) (by simp) ?_;intro gg cap w5 hown5 hgrow hat hlt;have hA5:=keep hgrow ((Below.heap_alloc _ _ _ hb4).trans HAG4.out.hA) (fun e=>by have:=(Hrow.out _ e.symm).1;omega);obtain⟨y0,y1,y2,y3,y4,y5,y6,yf⟩:=cells7 hA5;have Hown5:=xhd hown5;have Hgrow:=xhd hgrow;have Hat:=xhd hat;have hb5:w.heap.size+1<w5.heap.size:=(xgl hA5);clear hown5 hgrow hat hA5))
      all_goals
       go_wp2_with fail
       go_roundg 0
       case measure=>rw[Hg.out];omega
       case rel =>
        have hR5:RdAt w5 b s p4 l4 bad4 deep o4 en4:=(((show RdAt w4 b s p4 l4 bad4 deep o4 en4 by rw[Hdeep.out];exact HR4.out).alloc _).grown Hgrow.out (fun e=>by have:=(Hrow.out _ e.symm).1;omega));obtain⟨q1,q2,q3⟩:=HAG4.out.bad Hgrow.out (.slice (some ⟨gg,0,none⟩) (acc.length+1) cap);exact .inr ⟨by rw[←HF.out];exact rdArr_none HPM.out Hh.out Hrv.out,rfl,q1,q2,⟨_,_,_,q3⟩,p4,l4,o4,bad4,en4,Hbad4.out,hR5.setO (by omega) _ _⟩
     | some q =>
      obtain⟨x,r,o2⟩:=q;have Hrv:=xhd hrv;clear hrv
      go_region_law
       (first
        | (go_simp;go_at_call 28;refine(HV.out _ b s p1 la oa (decide (s.size≤p1.length)) (by exact HE.out.grown (gr_drew HAG3.out.hG) (fun k hk=>by injection hk with hk;omega)) hW0 hs (by rw[←Hdeep.out];exact HR3.out) hn).mono ?_;intro e w4 hP;rw[Hrv.out]at hP;obtain⟨ks2,vs2,S2,rfl,hV4,hS4,⟨p4,hR4⟩,hg4⟩:=hP;obtain⟨⟨ko,kn,kc,hks⟩,⟨vo,vn,vc,hvs⟩⟩:=IsV.slices hV4;subst hks;subst hvs;have HAG4:=xhd (HAG3.out.step (gr_same (gr_drew (xgr w3 (some b))) hg4));have hA4:=(cells7 HAG4.out.hA).2.2.2.2.2.2.1;have hb4:w.heap.size+1<w4.heap.size:=(Array.getElem?_eq_some_iff.1 HAG4.out.hA).1;have HV4:=xhd hV4;have HS4:=xhd hS4;have HR4:=xhd hR4;have Hg4:=xhd hg4;clear hV4 hS4 hR4 hg4;unfold valOf)
        | (refine step_append_lies _ (by rfl) _ _ _ (by rfl) (w.heap.size+2) 30 ti _ 7 96 Tryz.underlying28 hti htz0 htz1 htz2 rfl (by omega) (.slice so sn sc) acc.length cells (by rfl) (World.ownsRow.alloc HAG4.out.hO _) ⟨w4.heap.size,0,none⟩ 1 1 (c7 x (.slice ko kn kc) (.slice vo vn vc)) (by rfl) (by rfl) (World.news_of_block (heap_alloc_new w4 _)) (by simp[Value.oneCell',c7]) (by omega) (by unfold maxLen;omega) (by omega) (by simp;omega) (w4.heap.size+1) (by simp) ?_;intro gg cap w5 hown5 hgrow hat hlt;have hA5:=keep hgrow ((Below.heap_alloc _ _ _ hb4).trans HAG4.out.hA) (fun e=>by have:=(Hrow.out _ e.symm).1;omega);obtain⟨y0,y1,y2,y3,y4,y5,y6,yf⟩:=cells7 hA5;have Hown5:=xhd hown5;have Hgrow:=xhd hgrow;have Hat:=xhd hat;have hb5:w.heap.size+1<w5.heap.size:=(xgl hA5);clear hown5 hgrow hat hA5))
      all_goals
       go_wp2_with fail
       go_roundg (r.length+1)
       case measure=>rw[Hg.out];have:=rdV_len _ _ _ _ _ _ _ Hrv.out;have:=Hlp.out;omega
       case rel =>
        have hR5:RdAt w5 b s p4 r 0 deep o2 (decide (s.size≤p1.length)):=(((show RdAt w4 b s p4 r 0 deep o2 (decide (s.size≤p1.length)) by rw[Hdeep.out];exact HR4.out).alloc _).grown Hgrow.out (fun e=>by have:=(Hrow.out _ e.symm).1;omega));have hrl:=rdV_len _ _ _ _ _ _ _ Hrv.out;have hEe:(decide (s.size≤p1.length))=false:=by first|rfl|(have:=Hk1.out;simp;omega)
        have hlp2:=Hlp.out;have hm2:=Hm.out;have hac2:=Hacc.out;obtain⟨m',rfl⟩:∃m',m=m'+1:=⟨m-1,by omega⟩;refine .inl ⟨_,_,_,p4,r,o2,m',acc++[x],_,_,HAG4.out.push (w3:=w3) (fun k hk=>(Hrow.out k hk).2) (fun k hk=>by cases hk) Hg4.out.size HV4.out HS4.out (by have:=HAG3.out.hA;have:=(xgl this);omega) Hown5.out Hgrow.out (by rcases Hat.out with h|h;exact .inl h;exact .inr (by omega)),rfl,by omega,by simp;omega,?_,?_⟩
        ·rw[←HF.out];exact(rdArr_some HPM.out Hh.out Hrv.out).symm
        ·rw[←hEe];exact hR5.setO (by omega) _ _
    ·go_wp2_with fail
     (refine wp_region_quiet_tail 18 (by kernel_rfl) (by kernel_rfl) ?_;simp only[List.take_succ_cons,List.take_zero,List.drop_succ_cons,List.drop_zero];(repeat (go_big_quiet_step (fail)));refine wpQuiet_nil ?_;intro _ hwt;obtain⟨nt,hwt'⟩:=hwt;subst hwt';go_wp2_with fail)
     have HAG3:=xhd (HAG2.out.step (gr_set (gr_drewN (xgr w2 (some b)) nt) 5 (.bool (true))));have HR3:=xhd ((HR2.out.drewN nt).set5 (true));obtain⟨w3,hw3⟩:∃w3,w3=(w2.drewN nt).setCell ⟨b,5,none⟩ (.bool (true)):=⟨_,rfl⟩;rw[←hw3]at HAG3 HR3⊢;clear hw3 HAG2 HR2 c0 c1 c2 c3 c4 c5 cf z0 z1 z2 z3 z4 z5 z6 zf v0 v1 v2 v3 v4 v5 v6 vf hb1 hb2;obtain⟨v0,v1,v2,v3,v4,v5,v6,vf⟩:=cells7 HAG3.out.hA;have hacc2:acc.length+1≤1000000001:=by have:=Hacc.out;omega
     have hrow:∀k,(Value.slice so sn sc).ownBlock=some k→w.heap.size+2≤k∧k<w3.heap.size:=World.ownsRow.lt HAG3.out.hO;have Hrow:=xhd hrow;clear hrow
     cases hrv:rdV pf n la oa with
     | none =>
      have Hrv:=xhd hrv;clear hrv
      go_region_law
       (first
        | (go_simp;go_at_call 28;refine(HV.out _ b s p1 la oa (true) (by exact HE.out.grown (gr_drew HAG3.out.hG) (fun k hk=>by injection hk with hk;omega)) hW0 hs (by rw[←Hdeep.out];exact HR3.out) hn).mono ?_;intro e w4 hP;rw[Hrv.out]at hP;obtain⟨vv,rfl,⟨xk,xn,xg,xx,xt,ko,kn,kc,vo,vn,vc,rfl⟩,⟨p4,l4,o4,bad4,en4,hbad4,hR4⟩,hg4⟩:=hP;have HAG4:=xhd (HAG3.out.step (gr_same (gr_drew (xgr w3 (some b))) hg4));have hA4:=(cells7 HAG4.out.hA).2.2.2.2.2.2.1;have hb4:w.heap.size+1<w4.heap.size:=(Array.getElem?_eq_some_iff.1 HAG4.out.hA).1;have HR4:=xhd hR4;have Hg4:=xhd hg4;have Hbad4:=xhd hbad4;clear hR4 hg4 hbad4)
        | (refine step_append_lies _ (by rfl) _ _ _ (by rfl) (w.heap.size+2) 30 ti _ 7 96 Tryz.underlying28 hti htz0 htz1 htz2 rfl (by omega) (.slice so sn sc) acc.length cells (by rfl) (World.ownsRow.alloc HAG4.out.hO _) ⟨w4.heap.size,0,none⟩ 1 1 [.int .i64 xk,.int .i64 xn,.int .i64 xg,.float .f64 xx,.string xt,.slice ko kn kc,.slice vo vn vc] (by rfl) (by rfl) (World.news_of_block (heap_alloc_new w4 _)) (by simp[Value.oneCell']) (by omega) (by unfold maxLen;omega) (by omega) (by simp;omega) (w4.heap.size+1) (by simp) ?_;intro gg cap w5 hown5 hgrow hat hlt;have hA5:=keep hgrow ((Below.heap_alloc _ _ _ hb4).trans HAG4.out.hA) (fun e=>by have:=(Hrow.out _ e.symm).1;omega);obtain⟨y0,y1,y2,y3,y4,y5,y6,yf⟩:=cells7 hA5;have Hown5:=xhd hown5;have Hgrow:=xhd hgrow;have Hat:=xhd hat;have hb5:w.heap.size+1<w5.heap.size:=(xgl hA5);clear hown5 hgrow hat hA5))
      all_goals
       go_wp2_with fail
       go_roundg 0
       case measure=>rw[Hg.out];omega
       case rel =>
        have hR5:RdAt w5 b s p4 l4 bad4 deep o4 en4:=(((show RdAt w4 b s p4 l4 bad4 deep o4 en4 by rw[Hdeep.out];exact HR4.out).alloc _).grown Hgrow.out (fun e=>by have:=(Hrow.out _ e.symm).1;omega));obtain⟨q1,q2,q3⟩:=HAG4.out.bad Hgrow.out (.slice (some ⟨gg,0,none⟩) (acc.length+1) cap);exact .inr ⟨by rw[←HF.out];exact rdArr_none HPM.out Hh.out Hrv.out,rfl,q1,q2,⟨_,_,_,q3⟩,p4,l4,o4,bad4,en4,Hbad4.out,hR5.setO (by omega) _ _⟩
     | some q =>
      obtain⟨x,r,o2⟩:=q;have Hrv:=xhd hrv;clear hrv
      go_region_law
       (first
        | (go_simp;go_at_call 28;refine(HV.out _ b s p1 la oa (true) (by exact HE.out.grown (gr_drew HAG3.out.hG) (fun k hk=>by injection hk with hk;omega)) hW0 hs (by rw[←Hdeep.out];exact HR3.out) hn).mono ?_;intro e w4 hP;rw[Hrv.out]at hP;obtain⟨ks2,vs2,S2,rfl,hV4,hS4,⟨p4,hR4⟩,hg4⟩:=hP;obtain⟨⟨ko,kn,kc,hks⟩,⟨vo,vn,vc,hvs⟩⟩:=IsV.slices hV4;subst hks;subst hvs;have HAG4:=xhd (HAG3.out.step (gr_same (gr_drew (xgr w3 (some b))) hg4));have hA4:=(cells7 HAG4.out.hA).2.2.2.2.2.2.1;have hb4:w.heap.size+1<w4.heap.size:=(Array.getElem?_eq_some_iff.1 HAG4.out.hA).1;have HV4:=xhd hV4;have HS4:=xhd hS4;have HR4:=xhd hR4;have Hg4:=xhd hg4;clear hV4 hS4 hR4 hg4;unfold valOf)
        | (refine step_append_lies _ (by rfl) _ _ _ (by rfl) (w.heap.size+2) 30 ti _ 7 96 Tryz.underlying28 hti htz0 htz1 htz2 rfl (by omega) (.slice so sn sc) acc.length cells (by rfl) (World.ownsRow.alloc HAG4.out.hO _) ⟨w4.heap.size,0,none⟩ 1 1 (c7 x (.slice ko kn kc) (.slice vo vn vc)) (by rfl) (by rfl) (World.news_of_block (heap_alloc_new w4 _)) (by simp[Value.oneCell',c7]) (by omega) (by unfold maxLen;omega) (by omega) (by simp;omega) (w4.heap.size+1) (by simp) ?_;intro gg cap w5 hown5 hgrow hat hlt;have hA5:=keep hgrow ((Below.heap_alloc _ _ _ hb4).trans HAG4.out.hA) (fun e=>by have:=(Hrow.out _ e.symm).1;omega);obtain⟨y0,y1,y2,y3,y4,y5,y6,yf⟩:=cells7 hA5;have Hown5:=xhd hown5;have Hgrow:=xhd hgrow;have Hat:=xhd hat;have hb5:w.heap.size+1<w5.heap.size:=(xgl hA5);clear hown5 hgrow hat hA5))
      all_goals
       go_wp2_with fail
       go_roundg (r.length+1)
       case measure=>rw[Hg.out];have:=rdV_len _ _ _ _ _ _ _ Hrv.out;have:=Hlp.out;omega
       case rel =>
        have hR5:RdAt w5 b s p4 r 0 deep o2 (true):=(((show RdAt w4 b s p4 r 0 deep o2 (true) by rw[Hdeep.out];exact HR4.out).alloc _).grown Hgrow.out (fun e=>by have:=(Hrow.out _ e.symm).1;omega));have hrl:=rdV_len _ _ _ _ _ _ _ Hrv.out;have hEe:(true)=true:=by first|rfl|(have:=Hk1.out;simp;omega)
        have hlp2:=Hlp.out;have hm2:=Hm.out;have hac2:=Hacc.out;obtain⟨m',rfl⟩:∃m',m=m'+1:=⟨m-1,by omega⟩;refine .inl ⟨_,_,_,p4,r,o2,m',acc++[x],_,_,HAG4.out.push (w3:=w3) (fun k hk=>(Hrow.out k hk).2) (fun k hk=>by cases hk) Hg4.out.size HV4.out HS4.out (by have:=HAG3.out.hA;have:=(xgl this);omega) Hown5.out Hgrow.out (by rcases Hat.out with h|h;exact .inl h;exact .inr (by omega)),rfl,by omega,by simp;omega,?_,?_⟩
        ·rw[←HF.out];exact(rdArr_some HPM.out Hh.out Hrv.out).symm
        ·rw[←hEe];exact hR5.setO (by omega) _ _
  ·obtain⟨c0,c1,c2,c3,c4,c5,cf⟩:=hR.cells
   have hb2:w.heap.size+1<wr.heap.size:=(xgl hA);have hb1:w.heap.size<wr.heap.size:=by omega
   obtain⟨HG,HZ,HA⟩:=xh3 hG hZ hA;clear hG hZ hA
   obtain⟨z0,z1,z2,z3,z4,z5,z6,zf⟩:=zb_cells HZ.out;obtain⟨v0,v1,v2,v3,v4,v5,v6,vf⟩:=cells7 HA.out;have hbd:(bad==0)=false:=by simpa using hbad
   obtain⟨HR,HRn⟩:=xh2 hR hRn;clear hR hRn
   go_wp2_with fail
   refine bodyPost_ret (v:=.agg #[.int .i64 6,.int .i64 0,.int .i64 0,.float .f64 0,.string ⟨#[]⟩,.slice none 0 0,.slice so sn sc]) (by simp[results,Tryz.results51,go_sem,z0,z1,z2,z3,z4,z5,z6]) rfl ?_;rw[HRn.out];exact⟨_,rfl,⟨_,_,_,_,_,_,_,_,_,_,_,rfl⟩,⟨p',l',o',bad,en',hbad,(by repeat (first|with_reducible exact HR.out|with_reducible apply RdAt.alloc|with_reducible apply RdAt.set4|((with_reducible refine RdAt.setO ?_ ?_ _ _);rotate_left;(first|omega|(simp;omega)))))⟩,(by repeat (first|with_reducible exact HG.out|with_reducible apply gr_alloc|with_reducible apply gr_drewN|with_reducible apply gr_drew|with_reducible apply gr_set|((with_reducible refine gr_setM ?_ ?_ _ _);rotate_left;(first|omega|(simp;omega)))))⟩
end Go.Proofs.YtfkecmlmnhbmoaaGreatDoor
