/- The texts B2z B3 B4 B5 of the workbench, laid together. -/
import Derived.Test.YtfkecmlmnhbmoaaGreatDoorProg
import Derived.WalkKit
import Derived.WalkLawsBesides
import Derived.WalkSpells
import Derived.BigQuiet
import Derived.BigRegion
import Derived.Deep.QuietTactic
import Derived.Deep.RegionHeld3
import Derived.Deep.LoopGhost
import Derived.StillTailTactics
import Derived.Lib.Hide
import Derived.Laws.EntriesVeiled
import Derived.Test.YtfkecmlmnhbmoaaGreatDoorY11
import Derived.Test.YtfkecmlmnhbmoaaGreatDoorY12
import Derived.Test.YtfkecmlmnhbmoaaGreatDoorY13
import Derived.Test.YtfkecmlmnhbmoaaGreatDoorY15
set_option linter.unusedVariables false
set_option linter.unusedSimpArgs false
namespace Go.Proofs.YtfkecmlmnhbmoaaGreatDoor
open Go Go.RowKit
theorem ref_any (pf:By→Nat) (W0 w:World) (hI:Init W0) (hpf:PFC pf W0) (hE:Env W0 w) (b:Nat) (s:ByteArray) (p l:By) (deep:Int) (odd ends:Bool) (hR:RdAt w b s p l 0 deep odd ends) (hs:s.size≤140737488351240)
  (hW0:W0.heap.size≤b) (n:Int) (text:ByteArray) (tl:By) (htl:text.data.toList=tl) (hnum:numF pf tl=(2,n,0,0)) :
  Calls Tryz.prog 64 #[.pointer (some ⟨b,0,none⟩),numV 2 n 0,.string text] w fun e w'=>RefPost w w' b s deep ends e (refF pf n tl l odd):=by
 obtain ⟨⟨la,oa⟩,hP1⟩:∃ a,passM false l odd=a:=⟨_,rfl⟩
 obtain ⟨⟨gk,gn,gx,st⟩,hN⟩:∃ a,numF pf (wordT la)=a:=⟨_,rfl⟩
 rcases Bool.eq_false_or_eq_true (st == 1) with hst | hst
 ·exact ref_a pf W0 w hI hpf hE b s p l deep odd ends hR hs hW0 n text tl htl hnum hP1 hN hst
 ·obtain ⟨⟨lc,oc⟩,hP5⟩:∃ a,passM false (wordR la) (wordO la oa)=a:=⟨_,rfl⟩
  obtain ⟨O,hO⟩:∃ a,wordO lc oc=a:=⟨_,rfl⟩
  obtain ⟨W,hW⟩:∃ a,wordT lc=a:=⟨_,rfl⟩
  cases W with
  | nil=>exact ref_b pf W0 w hI hpf hE b s p l deep odd ends hR hs hW0 n text tl htl hnum hP1 hN hP5 hW hO hst
  | cons c W =>
   by_cases hw:c::W=[82]
   ·rcases Bool.eq_false_or_eq_true (st != 0) with hs0 | hs0
    ·exact ref_e pf W0 w hI hpf hE b s p l deep odd ends hR hs hW0 n text tl htl hnum hP1 hN hP5 hW hO hst hw hs0
    ·obtain rfl:st=0:=by simpa using hs0
     rcases Bool.eq_false_or_eq_true (gk != 2) with hk0 | hk0
     ·exact ref_f pf W0 w hI hpf hE b s p l deep odd ends hR hs hW0 n text tl htl hnum hP1 hN hP5 hW hO hw hk0
     ·obtain rfl:gk=2:=by simpa using hk0
      rcases Bool.eq_false_or_eq_true (headIs (wordT la) isDig) with hd | hd
      ·rcases Bool.eq_false_or_eq_true (headIs tl isDig) with ht | ht
       ·rcases Bool.eq_false_or_eq_true (n == 0) with hn | hn
        ·exact ref_i pf W0 w hI hpf hE b s p l deep odd ends hR hs hW0 n text tl htl hnum hP1 hN hP5 hW hO hw hd ht hn
        ·rcases Bool.eq_false_or_eq_true (decide (65535 < gn)) with hg | hg
         ·exact ref_j pf W0 w hI hpf hE b s p l deep odd ends hR hs hW0 n text tl htl hnum hP1 hN hP5 hW hO hw hd ht hn hg
         ·exact ref_k pf W0 w hI hpf hE b s p l deep odd ends hR hs hW0 n text tl htl hnum hP1 hN hP5 hW hO hw hd ht hn hg
       ·exact ref_h pf W0 w hI hpf hE b s p l deep odd ends hR hs hW0 n text tl htl hnum hP1 hN hP5 hW hO hw hd ht
      ·exact ref_g pf W0 w hI hpf hE b s p l deep odd ends hR hs hW0 n text tl htl hnum hP1 hN hP5 hW hO hw hd
   ·rcases Bool.eq_false_or_eq_true ((c.toNat:Int) == 82) with h82 | h82
    ·exact ref_c pf W0 w hI hpf hE b s p l deep odd ends hR hs hW0 n text tl htl hnum hP1 hN hP5 hW hO hst hw h82
    ·exact ref_d pf W0 w hI hpf hE b s p l deep odd ends hR hs hW0 n text tl htl hnum hP1 hN hP5 hW hO hst hw h82
end Go.Proofs.YtfkecmlmnhbmoaaGreatDoor
namespace Go.Proofs.YtfkecmlmnhbmoaaGreatDoor
open Go Go.RowKit
set_option maxRecDepth 100000 in
set_option maxHeartbeats 40000000 in
theorem signed_any (w:World) (s:ByteArray) (l:By) (hl:s.data.toList=l) (hs:s.size≤140737488351240) :
  Calls Tryz.prog 37 #[.string s] w fun e w'=>e=.returned (.bool (decide ((35:UInt8)∈l)))∧w'=w:=by
 have Hl:=Lib.hid hl
 clear hl
 go_enter Tryz.func37,Tryz.ntmps37
 go_wp2_with fail
 go_loopg [6] l.length (fun g t6 wr=>∃ pre l',g=l'.length∧t6=.int .i64 (pre.length:Nat)∧s.data.toList=pre ++ l'∧((35:UInt8)∈l↔(35:UInt8)∈l')∧wr=w)
 case atStart=>exact ⟨[],l,rfl,rfl,by simpa using Hl.out,Iff.rfl,rfl⟩
 case round =>
  obtain ⟨pre,l',hg,rfl,hS,hF,rfl⟩:=hrel
  have hsz:s.size=pre.length + l'.length:=by have:=congrArg List.length hS;simpa using this
  have HS:=Lib.hid hS
  have HF:=Lib.hid hF
  have Hg:=Lib.hid hg
  have hp1:pre.length≤s.size:=by omega
  clear hS hF hg
  cases l' with
  | nil =>
   have hlt:¬pre.length < s.size:=by simp at hsz;omega
   clear hsz
   go_wp2_with fail
   go_ret
   refine ⟨ret_bool ?_,rfl⟩
   have:¬(35:UInt8)∈l:=by rw [HF.out];simp
   simp [this]
  | cons c l2 =>
   obtain ⟨hlt,hc,hd,hr0,hr1⟩:=at_byte HS.out
   clear hsz
   rcases Bool.eq_false_or_eq_true ((c.toNat:Int) == 35) with h1 | h1
   ·go_wp2_with fail
    go_ret
    refine ⟨ret_bool ?_,rfl⟩
    have e:c=35:=by apply UInt8.toNat_inj.1;simp at h1;simp;omega
    have:(35:UInt8)∈l:=by rw [HF.out,e];simp
    simp [this]
   ·go_wp2_with fail
    go_roundg l2.length
    case measure=>rw [Hg.out];simp
    case rel =>
     refine ⟨pre ++ [c],l2,rfl,by simp,by rw [HS.out];simp,?_,rfl⟩
     rw [HF.out]
     have e:¬(35:UInt8)=c:=by intro e;rw [←e] at h1;exact absurd h1 (by decide)
     simp [e]
theorem numF_kind {pf:By→Nat} {l:By} {k n:Int} {x:Nat} (h:numF pf l=(k,n,x,0)):(k=3∧n=0)∨(k=2∧x=0):=by
 revert h
 unfold numF
 split
 ·intro h;simp at h
 ·repeat' split
  all_goals
   intro h
   simp at h
   try omega
def NumPost (w w':World) (b:Nat) (s:ByteArray) (deep:Int) (ends:Bool) (e:Ending):Rd PV→Prop
 | some (x,r,o)=>e=.returned (valOf x nilS nilS)∧(∃ p',RdAt w' b s p' r 0 deep o ends)∧w.grownBy w' (some b)
 | none=>e=.returned zeroV∧(∃ p' l' o' bad,bad≠0∧RdAt w' b s p' l' bad deep o' ends)∧w.grownBy w' (some b)
set_option maxRecDepth 100000 in
set_option maxHeartbeats 40000000 in
theorem num53_any (pf:By→Nat) (W0 w:World) (hI:Init W0) (hpf:PFC pf W0) (hE:Env W0 w) (b:Nat) (s:ByteArray) (p l:By) (deep:Int) (odd ends:Bool) (hR:RdAt w b s p l 0 deep odd ends) (hs:s.size≤140737488351240)
  (hW0:W0.heap.size≤b) :
  Calls Tryz.prog 53 #[.pointer (some ⟨b,0,none⟩)] w fun e w'=>NumPost w w' b s deep ends e (rdNum pf l odd):=by
 have HR:=Lib.hid hR
 have hbB:=hR.lt
 have HI:=Lib.hid hI;clear hI
 have Hpf:=Lib.hid hpf;clear hpf
 have HE:=Lib.hid hE;clear hE
 clear hR
 go_enter Tryz.func53,Tryz.ntmps53
 go_wp2_with fail
 refine (word_any _ b s p l 0 deep odd ends (by exact HR.out.alloc _) (by omega)).mono ?_
 rintro e w1 ⟨rfl,hR1,hg1⟩
 have HG1:=Lib.hid (gr_same (gr_alloc (World.grownBy.refl w (some b)) _) hg1)
 have HZ1:=Lib.hid (keep hg1 (heap_alloc_new w (.cells #[.int .i64 0,.int .i64 0,.int .i64 0,.float .f64 0,.string ⟨#[]⟩,.slice none 0 0,.slice none 0 0] 30 (0,0))) (by simp;omega))
 have HR1:=Lib.hid hR1
 have hb1:w.heap.size < w1.heap.size:=(Array.getElem?_eq_some_iff.1 HZ1.out).1
 have hb2:b < w1.heap.size:=by omega
 have hn1:¬w.heap.size=b:=by omega
 clear hR1 hg1
 have hsz2:(wordT l).length≤140737488351240:=by
  have:=HR1.out.size
  simp at this;omega
 generalize htx:(⟨(wordT l).toArray⟩:ByteArray)=tx
 have htl:tx.data.toList=wordT l:=by rw [←htx]
 have hsz3:tx.size≤140737488351240:=by rw [←htx];show (List.toArray (wordT l)).size≤140737488351240;simpa using hsz2
 have Htx:=Lib.hid htx;clear htx
 have Htl:=Lib.hid htl;clear htl
 obtain ⟨z0,z1,z2,z3,z4,z5,z6,zf⟩:=zb_cells HZ1.out
 by_cases ht:wordT l=wTrue
 ·have h1:tx.toList=[116,114,117,101]:=by rw [ByteArray.toList_eq,Htl.out];exact ht
  have hres:rdNum pf l odd=some (.bool 1,wordR l,wordO l odd):=by simp only [rdNum,ht,if_true]
  have Ht:=Lib.hid ht;clear ht
  go_wp2_with fail
  refine bodyPost_ret (v:=valOf (.bool 1) nilS nilS) (by simp [results,Tryz.results53,go_sem,valOf,nilS,pvKind,pvInt,pvGen,pvReal,pvText,z0,z1,z2,z3,z4,z5,z6,hn1]) rfl ?_
  rw [hres]
  exact ⟨rfl,⟨p ++ wordT l,(by repeat (first | with_reducible exact HR1.out | with_reducible apply RdAt.alloc | with_reducible apply RdAt.set4 | ((with_reducible refine RdAt.setO ?_ ?_ _ _);rotate_left;(first | omega | (simp;omega)))))⟩,(by repeat (first | with_reducible exact HG1.out | with_reducible apply gr_alloc | with_reducible apply gr_drewN | with_reducible apply gr_drew | with_reducible apply gr_set | ((with_reducible refine gr_setM ?_ ?_ _ _);rotate_left;(first | omega | (simp;omega)))))⟩
 ·by_cases hf:wordT l=wFalse
  ·have h1:(tx.toList == [116,114,117,101])=false:=by rw [ByteArray.toList_eq,Htl.out];exact beq_eq_false_iff_ne.2 ht
   have h2:tx.toList=[102,97,108,115,101]:=by rw [ByteArray.toList_eq,Htl.out];exact hf
   have hres:rdNum pf l odd=some (.bool 0,wordR l,wordO l odd):=by simp only [rdNum,hf];rfl
   have Ht:=Lib.hid ht;clear ht
   have Hf:=Lib.hid hf;clear hf
   go_wp2_with fail
   refine bodyPost_ret (v:=valOf (.bool 0) nilS nilS) (by simp [results,Tryz.results53,go_sem,valOf,nilS,pvKind,pvInt,pvGen,pvReal,pvText,z0,z1,z2,z3,z4,z5,z6,hn1]) rfl ?_
   rw [hres]
   exact ⟨rfl,⟨p ++ wordT l,(by repeat (first | with_reducible exact HR1.out | with_reducible apply RdAt.alloc | with_reducible apply RdAt.set4 | ((with_reducible refine RdAt.setO ?_ ?_ _ _);rotate_left;(first | omega | (simp;omega)))))⟩,(by repeat (first | with_reducible exact HG1.out | with_reducible apply gr_alloc | with_reducible apply gr_drewN | with_reducible apply gr_drew | with_reducible apply gr_set | ((with_reducible refine gr_setM ?_ ?_ _ _);rotate_left;(first | omega | (simp;omega)))))⟩
  ·by_cases hn:wordT l=wNull
   ·have h1:(tx.toList == [116,114,117,101])=false:=by rw [ByteArray.toList_eq,Htl.out];exact beq_eq_false_iff_ne.2 ht
    have h2:(tx.toList == [102,97,108,115,101])=false:=by rw [ByteArray.toList_eq,Htl.out];exact beq_eq_false_iff_ne.2 hf
    have h3:tx.toList=[110,117,108,108]:=by rw [ByteArray.toList_eq,Htl.out];exact hn
    have hres:rdNum pf l odd=some (.null,wordR l,wordO l odd):=by simp only [rdNum,hn];rfl
    have Ht:=Lib.hid ht;clear ht
    have Hf:=Lib.hid hf;clear hf
    have Hn:=Lib.hid hn;clear hn
    go_wp2_with fail
    refine bodyPost_ret (v:=valOf (.null) nilS nilS) (by simp [results,Tryz.results53,go_sem,valOf,nilS,pvKind,pvInt,pvGen,pvReal,pvText,z0,z1,z2,z3,z4,z5,z6,hn1]) rfl ?_
    rw [hres]
    exact ⟨rfl,⟨p ++ wordT l,(by repeat (first | with_reducible exact HR1.out | with_reducible apply RdAt.alloc | with_reducible apply RdAt.set4 | ((with_reducible refine RdAt.setO ?_ ?_ _ _);rotate_left;(first | omega | (simp;omega)))))⟩,(by repeat (first | with_reducible exact HG1.out | with_reducible apply gr_alloc | with_reducible apply gr_drewN | with_reducible apply gr_drew | with_reducible apply gr_set | ((with_reducible refine gr_setM ?_ ?_ _ _);rotate_left;(first | omega | (simp;omega)))))⟩
   ·have h1:(tx.toList == [116,114,117,101])=false:=by rw [ByteArray.toList_eq,Htl.out];exact beq_eq_false_iff_ne.2 ht
    have h2:(tx.toList == [102,97,108,115,101])=false:=by rw [ByteArray.toList_eq,Htl.out];exact beq_eq_false_iff_ne.2 hf
    have h3:(tx.toList == [110,117,108,108])=false:=by rw [ByteArray.toList_eq,Htl.out];exact beq_eq_false_iff_ne.2 hn
    have hres0:rdNum pf l odd=(if (numF pf (wordT l)).2.2.2≠0 then none else if (numF pf (wordT l)).1≠2 then some (.real (numF pf (wordT l)).2.2.1,wordR l,wordO l odd) else refF pf (numF pf (wordT l)).2.1 (wordT l) (wordR l) (wordO l odd)):=by
     simp only [rdNum,if_neg ht,if_neg hf,if_neg hn]
    have Ht:=Lib.hid ht;clear ht
    have Hf:=Lib.hid hf;clear hf
    have Hn:=Lib.hid hn;clear hn
    go_wp2_with fail
    refine (number_any pf W0 _ HI.out Hpf.out (by exact HE.out.grown HG1.out (fun k hk=>by injection hk with hk;omega)) tx (wordT l) Htl.out hsz3).mono ?_
    rintro e w3 ⟨rfl,hg3⟩
    have HG3:=Lib.hid (gr_then HG1.out hg3 (fun j hj=>by cases hj))
    have HZ3:=Lib.hid (keep hg3 HZ1.out (by simp))
    have HR3:=Lib.hid (HR1.out.grown hg3 (by simp))
    have hb3:w.heap.size < w3.heap.size:=(Array.getElem?_eq_some_iff.1 HZ3.out).1
    have hb4:b < w3.heap.size:=by omega
    clear z0 z1 z2 z3 z4 z5 z6 zf hg3 HG1 HZ1 HR1 hb1 hb2
    obtain ⟨z0,z1,z2,z3,z4,z5,z6,zf⟩:=zb_cells HZ3.out
    obtain ⟨⟨gk,gn,gx,st⟩,hN⟩:∃ a,numF pf (wordT l)=a:=⟨_,rfl⟩
    rw [hN] at hres0 ⊢
    simp only at hres0
    unfold numRet numV
    rcases Bool.eq_false_or_eq_true (st != 0) with hst | hst
    ·have hres:rdNum pf l odd=none:=by rw [hres0,if_pos (by simpa using hst)]
     have Hres0:=Lib.hid hres0;clear hres0
     have HN:=Lib.hid hN;clear hN
     go_wp2_with fail
     refine (fail_any _ b s _ _ 0 deep _ ends (by exact HR3.out.alloc _) st).mono ?_
     rintro e w4 ⟨rfl,hR4,hg4⟩
     replace hR4:RdAt w4 b s (p ++ wordT l) (wordR l) st deep (wordO l odd) ends:=hR4
     have HG4:=Lib.hid (gr_same (gr_alloc HG3.out _) hg4)
     have HZ4:=Lib.hid (keep hg4 ((Below.heap_alloc _ _ _ hb3).trans HZ3.out) (by simp;omega))
     clear z0 z1 z2 z3 z4 z5 z6 zf hg4
     obtain ⟨z0,z1,z2,z3,z4,z5,z6,zf⟩:=zb_cells HZ4.out
     have HR4:=Lib.hid hR4;clear hR4
     unfold zeroV
     go_wp2_with fail
     refine bodyPost_ret (v:=zeroV) (by simp [results,Tryz.results53,go_sem,zeroV,z0,z1,z2,z3,z4,z5,z6,hn1]) rfl ?_
     rw [hres]
     exact ⟨rfl,⟨p ++ wordT l,wordR l,wordO l odd,st,by simpa using hst,(by repeat (first | with_reducible exact HR4.out | with_reducible apply RdAt.alloc | with_reducible apply RdAt.set4 | ((with_reducible refine RdAt.setO ?_ ?_ _ _);rotate_left;(first | omega | (simp;omega)))))⟩,(by repeat (first | with_reducible exact HG4.out | with_reducible apply gr_alloc | with_reducible apply gr_drewN | with_reducible apply gr_drew | with_reducible apply gr_set | ((with_reducible refine gr_setM ?_ ?_ _ _);rotate_left;(first | omega | (simp;omega)))))⟩
    ·obtain rfl:st=0:=by simpa using hst
     rcases Bool.eq_false_or_eq_true (gk != 2) with hgk | hgk
     ·have hres:rdNum pf l odd=some (.real gx,wordR l,wordO l odd):=by rw [hres0,if_neg (by simp),if_pos (by simpa using hgk)]
      obtain ⟨rfl,rfl⟩:gk=3∧gn=0:=by
       rcases numF_kind hN with h | h
       ·exact h
       ·simp [h.1] at hgk
      have Hres0:=Lib.hid hres0;clear hres0
      have HN:=Lib.hid hN;clear hN
      go_wp2_with fail
      refine bodyPost_ret (v:=valOf (.real gx) nilS nilS) (by simp [results,Tryz.results53,go_sem,valOf,nilS,pvKind,pvInt,pvGen,pvReal,pvText,z0,z1,z2,z3,z4,z5,z6,hn1,hb3]) rfl ?_
      rw [hres]
      exact ⟨rfl,⟨p ++ wordT l,(by repeat (first | with_reducible exact HR3.out | with_reducible apply RdAt.alloc | with_reducible apply RdAt.set4 | ((with_reducible refine RdAt.setO ?_ ?_ _ _);rotate_left;(first | omega | (simp;omega)))))⟩,(by repeat (first | with_reducible exact HG3.out | with_reducible apply gr_alloc | with_reducible apply gr_drewN | with_reducible apply gr_drew | with_reducible apply gr_set | ((with_reducible refine gr_setM ?_ ?_ _ _);rotate_left;(first | omega | (simp;omega)))))⟩
     ·obtain rfl:gk=2:=by simpa using hgk
      have hres:rdNum pf l odd=refF pf gn (wordT l) (wordR l) (wordO l odd):=by rw [hres0,if_neg (by simp),if_neg (by simp)]
      obtain rfl:gx=0:=by
       rcases numF_kind hN with h | h
       ·exact absurd h.1 (by decide)
       ·exact h.2
      have Hres0:=Lib.hid hres0;clear hres0
      have HN:=Lib.hid hN;clear hN
      go_wp2_with fail
      refine (ref_any pf W0 _ HI.out Hpf.out (by exact HE.out.grown (gr_alloc HG3.out _) (fun k hk=>by injection hk with hk;omega)) b s _ _ deep _ ends (by exact HR3.out.alloc _) hs hW0 gn tx (wordT l) Htl.out HN.out).mono ?_
      intro e w4 hP
      cases hr:refF pf gn (wordT l) (wordR l) (wordO l odd) with
      | none =>
       rw [hr] at hP hres
       obtain ⟨rfl,⟨p4,l4,o4,hR4⟩,hg4⟩:=hP
       have HG4:=Lib.hid (gr_same (gr_alloc HG3.out _) hg4)
       have HZ4:=Lib.hid (keep hg4 ((Below.heap_alloc _ _ _ hb3).trans HZ3.out) (by simp;omega))
       clear z0 z1 z2 z3 z4 z5 z6 zf hg4 hr
       obtain ⟨z0,z1,z2,z3,z4,z5,z6,zf⟩:=zb_cells HZ4.out
       have HR4:=Lib.hid hR4;clear hR4
       unfold zeroV
       go_wp2_with fail
       refine bodyPost_ret (v:=zeroV) (by simp [results,Tryz.results53,go_sem,zeroV,z0,z1,z2,z3,z4,z5,z6,hn1]) rfl ?_
       rw [hres]
       exact ⟨rfl,⟨p4,l4,o4,2,by decide,(by repeat (first | with_reducible exact HR4.out | with_reducible apply RdAt.alloc | with_reducible apply RdAt.set4 | ((with_reducible refine RdAt.setO ?_ ?_ _ _);rotate_left;(first | omega | (simp;omega)))))⟩,(by repeat (first | with_reducible exact HG4.out | with_reducible apply gr_alloc | with_reducible apply gr_drewN | with_reducible apply gr_drew | with_reducible apply gr_set | ((with_reducible refine gr_setM ?_ ?_ _ _);rotate_left;(first | omega | (simp;omega)))))⟩
      | some r =>
       obtain ⟨x,r,o⟩:=r
       rw [hr] at hP hres
       obtain ⟨rfl,⟨p4,hR4⟩,hg4⟩:=hP
       have HG4:=Lib.hid (gr_same (gr_alloc HG3.out _) hg4)
       have HZ4:=Lib.hid (keep hg4 ((Below.heap_alloc _ _ _ hb3).trans HZ3.out) (by simp;omega))
       clear z0 z1 z2 z3 z4 z5 z6 zf hg4 hr
       obtain ⟨z0,z1,z2,z3,z4,z5,z6,zf⟩:=zb_cells HZ4.out
       have HR4:=Lib.hid hR4;clear hR4
       unfold valOf nilS
       go_wp2_with fail
       refine bodyPost_ret (v:=valOf x nilS nilS) (by simp [results,Tryz.results53,go_sem,valOf,nilS,z0,z1,z2,z3,z4,z5,z6,hn1]) rfl ?_
       rw [hres]
       exact ⟨rfl,⟨p4,(by repeat (first | with_reducible exact HR4.out | with_reducible apply RdAt.alloc | with_reducible apply RdAt.set4 | ((with_reducible refine RdAt.setO ?_ ?_ _ _);rotate_left;(first | omega | (simp;omega)))))⟩,(by repeat (first | with_reducible exact HG4.out | with_reducible apply gr_alloc | with_reducible apply gr_drewN | with_reducible apply gr_drew | with_reducible apply gr_set | ((with_reducible refine gr_setM ?_ ?_ _ _);rotate_left;(first | omega | (simp;omega)))))⟩
end Go.Proofs.YtfkecmlmnhbmoaaGreatDoor
namespace Go.Proofs.YtfkecmlmnhbmoaaGreatDoor
open Go Go.RowKit
def SlAt (S:Nat→Prop) (w:World) (v:Value) (size n:Nat) (cells:List Value):Prop :=
 cells.length=n * size∧∃ o cap,v=.slice o n cap∧n≤cap∧cap≤maxLen∧(n=0∨∃ b i,o=some ⟨b,i,none⟩∧S b∧∀ j u,cells[j]?=some u→w.cell? ⟨b,i + j,none⟩=some u)
theorem SlAt.nil (S:Nat→Prop) (w:World) (size:Nat):SlAt S w nilS size 0 [] :=
 ⟨by simp,none,0,rfl,Nat.le_refl _,by unfold maxLen;omega,.inl rfl⟩
theorem SlAt.keep {S S':Nat→Prop} {w w':World} (hS:∀ k,S k→S' k∧w'.heap[k]?=w.heap[k]?) {v:Value} {size n:Nat} {cells:List Value} (h:SlAt S w v size n cells):SlAt S' w' v size n cells:=by
 obtain ⟨h1,o,cap,h2,h3,h4,h5⟩:=h
 refine ⟨h1,o,cap,h2,h3,h4,?_⟩
 rcases h5 with h5 | ⟨b,i,e,hb,hc⟩
 ·exact .inl h5
 ·refine .inr ⟨b,i,e,(hS b hb).1,fun j u hj=>?_⟩
  exact (World.cell?_of_block (hS b hb).2).trans (hc j u hj)
theorem SlAt.of_row {w:World} {base:Nat} {e:TypeId} {size:Nat} {v:Value} {n:Nat} {cells:List Value} (h:w.ownsRow base e size v n cells) (S:Nat→Prop) (hS:∀ k,v.ownBlock=some k→S k):SlAt S w v size n cells:=by
 obtain ⟨h1,h2⟩:=h
 rcases h2 with ⟨rfl,rfl⟩ | ⟨g,cap,cur,rfl,hb,hg,hc,hm,hs,ht⟩
 ·have:cells=[]:=List.eq_nil_of_length_eq_zero (by simpa using h1)
  subst this
  exact SlAt.nil _ _ _
 ·refine ⟨h1,_,cap,rfl,hc,hm,.inr ⟨g,0,rfl,hS g rfl,fun j u hj=>?_⟩⟩
  have hj2:cur.toList[j]?=some u:=by
   rw [←ht,List.getElem?_take] at hj
   split at hj
   ·exact hj
   ·simp at hj
  have hj3:cur[j]?=some u:=by simpa using hj2
  simp [World.cell?,hg,hj3]
def kvals (l:List By):List Value:=l.map fun k=>.string ⟨k.toArray⟩
def c7 (x:PV) (ks vs:Value):List Value:=[.int .i64 (pvKind x),.int .i64 (pvInt x),.int .i64 (pvGen x),.float .f64 (pvReal x),.string ⟨(pvText x).toArray⟩,ks,vs]
mutual
def IsV (S:Nat→Prop) (w:World):PV→Value→Value→Prop
 | .arr kids,ks,vs=>SlAt S w ks 1 0 []∧∃ cells,SlAt S w vs 7 kids.length cells∧IsVs S w kids cells
 | .dict keys kids,ks,vs=>SlAt S w ks 1 keys.length (kvals keys)∧∃ cells,SlAt S w vs 7 kids.length cells∧IsVs S w kids cells
 | _,ks,vs=>SlAt S w ks 1 0 []∧SlAt S w vs 7 0 []
def IsVs (S:Nat→Prop) (w:World):List PV→List Value→Prop
 | [],cells=>cells=[]
 | x::xs,cells=>∃ ks vs rest,cells=c7 x ks vs ++ rest∧IsV S w x ks vs∧IsVs S w xs rest
end
mutual
theorem IsV.keep {S S':Nat→Prop} {w w':World} (hS:∀ k,S k→S' k∧w'.heap[k]?=w.heap[k]?):∀ (x:PV) (ks vs:Value),IsV S w x ks vs→IsV S' w' x ks vs
 | .arr kids,ks,vs,h=>by
  simp only [IsV] at h ⊢
  obtain ⟨h1,cells,h2,h3⟩:=h
  exact ⟨h1.keep hS,cells,h2.keep hS,IsVs.keep hS kids cells h3⟩
 | .dict keys kids,ks,vs,h=>by
  simp only [IsV] at h ⊢
  obtain ⟨h1,cells,h2,h3⟩:=h
  exact ⟨h1.keep hS,cells,h2.keep hS,IsVs.keep hS kids cells h3⟩
 | .null,ks,vs,h=>by simp only [IsV] at h ⊢;exact ⟨h.1.keep hS,h.2.keep hS⟩
 | .bool _,ks,vs,h=>by simp only [IsV] at h ⊢;exact ⟨h.1.keep hS,h.2.keep hS⟩
 | .int _,ks,vs,h=>by simp only [IsV] at h ⊢;exact ⟨h.1.keep hS,h.2.keep hS⟩
 | .real _,ks,vs,h=>by simp only [IsV] at h ⊢;exact ⟨h.1.keep hS,h.2.keep hS⟩
 | .str _,ks,vs,h=>by simp only [IsV] at h ⊢;exact ⟨h.1.keep hS,h.2.keep hS⟩
 | .name _,ks,vs,h=>by simp only [IsV] at h ⊢;exact ⟨h.1.keep hS,h.2.keep hS⟩
 | .ref _ _,ks,vs,h=>by simp only [IsV] at h ⊢;exact ⟨h.1.keep hS,h.2.keep hS⟩
theorem IsVs.keep {S S':Nat→Prop} {w w':World} (hS:∀ k,S k→S' k∧w'.heap[k]?=w.heap[k]?):∀ (xs:List PV) (cells:List Value),IsVs S w xs cells→IsVs S' w' xs cells
 | [],cells,h=>by simp only [IsVs] at h ⊢;exact h
 | x::xs,cells,h=>by
  simp only [IsVs] at h ⊢
  obtain ⟨ks,vs,rest,h1,h2,h3⟩:=h
  exact ⟨ks,vs,rest,h1,IsV.keep hS x ks vs h2,IsVs.keep hS xs rest h3⟩
end
theorem IsVs.append {S:Nat→Prop} {w:World} {ys:List PV} {d:List Value} (hy:IsVs S w ys d):∀ (xs:List PV) (c:List Value),IsVs S w xs c→IsVs S w (xs ++ ys) (c ++ d)
 | [],c,h=>by simp only [IsVs] at h;subst h;simpa using hy
 | x::xs,c,h=>by
  simp only [IsVs,List.cons_append] at h ⊢
  obtain ⟨ks,vs,rest,h1,h2,h3⟩:=h
  exact ⟨ks,vs,rest ++ d,by rw [h1,List.append_assoc],h2,IsVs.append hy xs rest h3⟩
theorem IsVs.one {S:Nat→Prop} {w:World} {x:PV} {ks vs:Value} (h:IsV S w x ks vs):IsVs S w [x] (c7 x ks vs):=by
 simp only [IsVs]
 exact ⟨ks,vs,[],by simp,h,rfl⟩
theorem IsV.plain {S:Nat→Prop} {w:World} {x:PV} (h:match x with | .arr _=>False | .dict _ _=>False | _=>True):IsV S w x nilS nilS:=by
 cases x<;>first | exact h.elim | (simp only [IsV];exact ⟨SlAt.nil _ _ _,SlAt.nil _ _ _⟩)
end Go.Proofs.YtfkecmlmnhbmoaaGreatDoor
namespace Go.Proofs.YtfkecmlmnhbmoaaGreatDoor
open Go Go.RowKit
def Shape7 (v:Value):Prop:=∃ k n g x t o1 n1 c1 o2 n2 c2,v=.agg #[.int .i64 k,.int .i64 n,.int .i64 g,.float .f64 x,.string t,.slice o1 n1 c1,.slice o2 n2 c2]
def VPost (w w':World) (b:Nat) (s:ByteArray) (deep:Int) (ends:Bool) (e:Ending):Rd PV→Prop
 | some (x,r,o)=>∃ (ks vs:Value) (S:Nat→Prop),e=.returned (valOf x ks vs)∧IsV S w' x ks vs∧(∀ k,S k→w.heap.size≤k∧k < w'.heap.size)∧(∃ p',RdAt w' b s p' r 0 deep o ends)∧w.grownBy w' (some b)
 | none=>∃ v,e=.returned v∧Shape7 v∧(∃ p' l' o' bad en',bad≠0∧RdAt w' b s p' l' bad deep o' en')∧w.grownBy w' (some b)
def ValC (pf:By→Nat) (W0:World) (n:Nat):Prop:=∀ (w:World) (b:Nat) (s:ByteArray) (p l:By) (odd ends:Bool),Env W0 w→W0.heap.size≤b→s.size≤1000000000→RdAt w b s p l 0 (50 - n) odd ends→n≤50 →
 Calls Tryz.prog 28 #[.pointer (some ⟨b,0,none⟩)] w fun e w'=>VPost w w' b s (50 - n) ends e (rdV pf n l odd)
theorem IsV.slices {S:Nat→Prop} {w:World} {x:PV} {ks vs:Value} (h:IsV S w x ks vs):(∃ o n c,ks=.slice o n c)∧∃ o n c,vs=.slice o n c:=by
 cases x<;>simp only [IsV] at h
 case arr =>
  obtain ⟨⟨_,o,c,rfl,_⟩,cells,⟨_,o2,c2,rfl,_⟩,_⟩:=h
  exact ⟨⟨_,_,_,rfl⟩,_,_,_,rfl⟩
 case dict =>
  obtain ⟨⟨_,o,c,rfl,_⟩,cells,⟨_,o2,c2,rfl,_⟩,_⟩:=h
  exact ⟨⟨_,_,_,rfl⟩,_,_,_,rfl⟩
 all_goals
  obtain ⟨⟨_,o,c,rfl,_⟩,⟨_,o2,c2,rfl,_⟩⟩:=h
  exact ⟨⟨_,_,_,rfl⟩,_,_,_,rfl⟩
theorem Tryz.info30:(Tryz.prog.info? 30).map (fun i=>(i.zero,i.size,i.bytes))=some (some (.agg #[.int .i64 0,.int .i64 0,.int .i64 0,.float .f64 0,.string ⟨#[]⟩,.slice none 0 0,.slice none 0 0]),7,96):=by kernel_rfl
def AB (k:Int) (ks vs:Value):Obj:=.cells #[.int .i64 k,.int .i64 0,.int .i64 0,.float .f64 0,.string ⟨#[]⟩,ks,vs] 30 (0,0)
theorem alloc2 (w:World) (n:Nat) (hw:w.heap.size=n) (o1 o2:Obj):((w.alloc o1).alloc o2).heap[n]?=some o1∧((w.alloc o1).alloc o2).heap[n + 1]?=some o2:=by
 subst hw
 have s1:(w.alloc o1).heap.size=w.heap.size + 1:=by simp
 refine ⟨?_,?_⟩
 ·rw [Below.heap_alloc _ _ _ (by omega)];exact heap_alloc_new w o1
 ·rw [←s1];exact heap_alloc_new _ o2
structure ColX (w wr:World) (b:Nat) (kv vs:Value) (keys:List By) (acc:List PV) (S:Nat→Prop) (cells:List Value):Prop where
 hG:w.grownBy wr (some b)
 hZ:wr.heap[w.heap.size]?=some (.cells #[.int .i64 0,.int .i64 0,.int .i64 0,.float .f64 0,.string ⟨#[]⟩,.slice none 0 0,.slice none 0 0] 30 (0,0))
 hK:wr.ownsRow (w.heap.size + 2) 9 1 kv keys.length (kvals keys)
 hO:wr.ownsRow (w.heap.size + 2) 30 7 vs acc.length cells
 hI:IsVs S wr acc cells
 hS:∀ k,S k→w.heap.size + 2≤k∧k < wr.heap.size∧vs.ownBlock≠some k∧kv.ownBlock≠some k
 hKO:∀ k,kv.ownBlock=some k→vs.ownBlock≠some k
 hb:b < w.heap.size
structure ColG (w wr:World) (b:Nat) (kd:Int) (kv vs:Value) (keys:List By) (acc:List PV) (S:Nat→Prop) (cells:List Value):Prop extends ColX w wr b kv vs keys acc S cells where
 hA:wr.heap[w.heap.size + 1]?=some (AB kd kv vs)
theorem row_keptB {w w':World} {base:Nat} {e:TypeId} {size:Nat} {v:Value} {n:Nat} {xs:List Value} (h:w.ownsRow base e size v n xs) {r:Option Nat} (hg:w.grownBy w' r) (hr:∀ k,v.ownBlock=some k→r≠some k):w'.ownsRow base e size v n xs:=by
 refine World.ownsRow.kept h hg ?_
 cases hv:v.ownBlock with
 | none=>exact .inl rfl
 | some k=>right;exact fun e=>hr k hv e.symm
theorem gr_alloc_then {w w':World} {o:Obj} {r:Option Nat} (hgrow:(w.alloc o).grownBy w' r):w.grownBy w' r:=by
 have h0:w.grownBy (w.alloc o) r:=gr_alloc (World.grownBy.refl _ _) _
 exact ⟨hgrow.os.trans h0.os,hgrow.tape.trans h0.tape,hgrow.output.trans h0.output,Nat.le_trans h0.size hgrow.size,fun k hk hkb=>(hgrow.block k (by have:=h0.size;omega) hkb).trans (h0.block k hk hkb)⟩
section
variable {w wr:World} {b:Nat} {kd:Int} {kv vs:Value} {keys:List By} {acc:List PV} {S:Nat→Prop} {cells:List Value}
theorem ColX.other (h:ColX w wr b kv vs keys acc S cells) {w':World} {r:Option Nat} (hg:wr.grownBy w' r) (hr:∀ k,r=some k→k=b∨k=w.heap.size + 1) (hG':w.grownBy w' (some b)):ColX w w' b kv vs keys acc S cells:=by
 have hb:=h.hb
 refine ⟨hG',keep hg h.hZ (fun e=>by have:=hr _ e.symm;omega),?_,?_,?_,?_,h.hKO,hb⟩
 ·refine row_keptB h.hK hg (fun k hk e=>?_)
  have:=(World.ownsRow.lt h.hK k hk).1
  have:=hr _ e
  omega
 ·refine row_keptB h.hO hg (fun k hk e=>?_)
  have:=(World.ownsRow.lt h.hO k hk).1
  have:=hr _ e
  omega
 ·refine IsVs.keep (fun k hk=>⟨hk,hg.block k (h.hS k hk).2.1 (fun e=>?_)⟩) _ _ h.hI
  have:=(h.hS k hk).1
  have:=hr _ e.symm
  omega
 ·intro k hk
  have:=h.hS k hk
  have:=hg.size
  exact ⟨by omega,by omega,(h.hS k hk).2.2⟩
theorem ColX.step (h:ColX w wr b kv vs keys acc S cells) {w':World} (hg:wr.grownBy w' (some b)):ColX w w' b kv vs keys acc S cells :=
 h.other hg (fun k hk=>.inl (by injection hk with hk;exact hk.symm)) (gr_same h.hG hg)
theorem ColX.setA (h:ColX w wr b kv vs keys acc S cells) (i:Nat) (v:Value):ColX w (wr.setCell ⟨w.heap.size + 1,i,none⟩ v) b kv vs keys acc S cells :=
 h.other (gr_set (World.grownBy.refl wr (some (w.heap.size + 1))) i v) (fun k hk=>.inr (by injection hk with hk;exact hk.symm)) (gr_setM h.hG (by omega) _ _)
theorem ColG.step (h:ColG w wr b kd kv vs keys acc S cells) {w':World} (hg:wr.grownBy w' (some b)):ColG w w' b kd kv vs keys acc S cells :=
 ⟨h.toColX.step hg,keep hg h.hA (by have:=h.hb;simp;omega)⟩
theorem ColX.push {w3 w4 w5:World} (h4:ColX w w4 b kv vs keys acc S cells) (hov:∀ k,vs.ownBlock=some k→k < w3.heap.size) (hkv:∀ k,kv.ownBlock=some k→k < w3.heap.size) (h34:w3.heap.size≤w4.heap.size) {x:PV} {ks2 vs2:Value} {S2:Nat→Prop}
  (hV:IsV S2 w4 x ks2 vs2) (hS2:∀ k,S2 k→w3.heap.size≤k∧k < w4.heap.size) (hw3:w.heap.size + 2≤w3.heap.size) {o:Obj} {gg cap:Nat}
  (hown:w5.ownsRow (w.heap.size + 2) 30 7 (.slice (some ⟨gg,0,none⟩) (acc.length + 1) cap) (acc.length + 1) (cells ++ c7 x ks2 vs2)) (hgrow:(w4.alloc o).grownBy w5 vs.ownBlock) (hat:vs.ownBlock=some gg∨w4.heap.size≤gg) :
  ColX w w5 b kv (.slice (some ⟨gg,0,none⟩) (acc.length + 1) cap) keys (acc ++ [x]) (fun k=>S k∨S2 k) (cells ++ c7 x ks2 vs2):=by
 have hb:=h4.hb
 have hvl:=World.ownsRow.lt h4.hO
 have hkl:=World.ownsRow.lt h4.hK
 have hg45:=gr_alloc_then hgrow
 have hs45:=hg45.size
 refine ⟨gr_then h4.hG hg45 (fun j hj=>by have:=(hvl j hj).1;omega),?_,?_,?_,?_,?_,?_,hb⟩
 ·exact keep hg45 h4.hZ (fun e=>by have:=(hvl _ e.symm).1;omega)
 ·exact row_keptB h4.hK hg45 (fun k hk e=>h4.hKO k hk e)
 ·simpa using hown
 ·refine IsVs.append (IsVs.one (IsV.keep (fun k hk=>⟨.inr hk,?_⟩) _ _ _ hV)) _ _ (IsVs.keep (fun k hk=>⟨.inl hk,?_⟩) _ _ h4.hI)
  ·have:=hS2 k hk
   exact hg45.block k this.2 (fun e=>by have:=hov k e.symm;omega)
  ·have:=h4.hS k hk
   exact hg45.block k this.2.1 (fun e=>this.2.2.1 e.symm)
 ·intro k hk
  rcases hk with hk | hk
  ·have:=h4.hS k hk
   refine ⟨this.1,by omega,?_,this.2.2.2⟩
   intro e
   have e:gg=k:=by simpa [Value.ownBlock] using e
   rcases hat with h | h
   ·exact this.2.2.1 (h.trans (by rw [e]))
   ·omega
  ·have:=hS2 k hk
   refine ⟨by omega,by omega,?_,fun e=>by have:=hkv k e;omega⟩
   intro e
   have e:gg=k:=by simpa [Value.ownBlock] using e
   rcases hat with h | h
   ·have:=hov gg h;omega
   ·omega
 ·intro k hk e
  have e:gg=k:=by simpa [Value.ownBlock] using e
  have:=h4.hKO k hk
  rcases hat with h | h
  ·exact this (h.trans (by rw [e]))
  ·have:=(hkl k hk).2;omega
theorem ColX.pushKey {w4 w5:World} (h4:ColX w w4 b kv vs keys acc S cells) {key:By} {o:Obj} {gg cap:Nat}
  (hown:w5.ownsRow (w.heap.size + 2) 9 1 (.slice (some ⟨gg,0,none⟩) (keys.length + 1) cap) (keys.length + 1) (kvals keys ++ [.string ⟨key.toArray⟩])) (hgrow:(w4.alloc o).grownBy w5 kv.ownBlock) (hat:kv.ownBlock=some gg∨w4.heap.size≤gg) :
  ColX w w5 b (.slice (some ⟨gg,0,none⟩) (keys.length + 1) cap) vs (keys ++ [key]) acc S cells:=by
 have hb:=h4.hb
 have hvl:=World.ownsRow.lt h4.hO
 have hkl:=World.ownsRow.lt h4.hK
 have hg45:=gr_alloc_then hgrow
 have hs45:=hg45.size
 refine ⟨gr_then h4.hG hg45 (fun j hj=>by have:=(hkl j hj).1;omega),?_,?_,?_,?_,?_,?_,hb⟩
 ·exact keep hg45 h4.hZ (fun e=>by have:=(hkl _ e.symm).1;omega)
 ·simpa [kvals] using hown
 ·exact row_keptB h4.hO hg45 (fun k hk e=>h4.hKO k e hk)
 ·refine IsVs.keep (fun k hk=>⟨hk,?_⟩) _ _ h4.hI
  have:=h4.hS k hk
  exact hg45.block k this.2.1 (fun e=>this.2.2.2 e.symm)
 ·intro k hk
  have:=h4.hS k hk
  refine ⟨this.1,by omega,this.2.2.1,?_⟩
  intro e
  have e:gg=k:=by simpa [Value.ownBlock] using e
  rcases hat with h | h
  ·exact this.2.2.2 (h.trans (by rw [e]))
  ·omega
 ·intro k hk e
  have hk:gg=k:=by simpa [Value.ownBlock] using hk
  rcases hat with h | h
  ·exact h4.hKO k (h.trans (by rw [hk])) e
  ·have:=(hvl k e).2;omega
theorem ColG.push {w3 w4 w5:World} (h4:ColG w w4 b kd kv vs keys acc S cells) (hov:∀ k,vs.ownBlock=some k→k < w3.heap.size) (hkv:∀ k,kv.ownBlock=some k→k < w3.heap.size) (h34:w3.heap.size≤w4.heap.size) {x:PV} {ks2 vs2:Value} {S2:Nat→Prop}
  (hV:IsV S2 w4 x ks2 vs2) (hS2:∀ k,S2 k→w3.heap.size≤k∧k < w4.heap.size) (hw3:w.heap.size + 2≤w3.heap.size) {o:Obj} {gg cap:Nat}
  (hown:w5.ownsRow (w.heap.size + 2) 30 7 (.slice (some ⟨gg,0,none⟩) (acc.length + 1) cap) (acc.length + 1) (cells ++ c7 x ks2 vs2)) (hgrow:(w4.alloc o).grownBy w5 vs.ownBlock) (hat:vs.ownBlock=some gg∨w4.heap.size≤gg) :
  ColG w (w5.setCell ⟨w.heap.size + 1,6,none⟩ (.slice (some ⟨gg,0,none⟩) (acc.length + 1) cap)) b kd kv (.slice (some ⟨gg,0,none⟩) (acc.length + 1) cap) keys (acc ++ [x]) (fun k=>S k∨S2 k) (cells ++ c7 x ks2 vs2):=by
 have hvl:=World.ownsRow.lt h4.hO
 have hA5:w5.heap[w.heap.size + 1]?=some (AB kd kv vs):=keep (gr_alloc_then hgrow) h4.hA (fun e=>by have:=(hvl _ e.symm).1;omega)
 exact ⟨(h4.toColX.push (w3:=w3) hov hkv h34 hV hS2 hw3 hown hgrow hat).setA _ _,by simp [World.setCell,Array.getElem?_modify,hA5,AB]⟩
theorem ColG.bad {w4 w5:World} (h4:ColG w w4 b kd kv vs keys acc S cells) {o:Obj} (hgrow:(w4.alloc o).grownBy w5 vs.ownBlock) (v:Value) :
  w.grownBy (w5.setCell ⟨w.heap.size + 1,6,none⟩ v) (some b)∧(w5.setCell ⟨w.heap.size + 1,6,none⟩ v).heap[w.heap.size]?=some (.cells #[.int .i64 0,.int .i64 0,.int .i64 0,.float .f64 0,.string ⟨#[]⟩,.slice none 0 0,.slice none 0 0] 30 (0,0))∧(w5.setCell ⟨w.heap.size + 1,6,none⟩ v).heap[w.heap.size + 1]?=some (AB kd kv v):=by
 have hb:=h4.hb
 have hvl:=World.ownsRow.lt h4.hO
 have hg45:=gr_alloc_then hgrow
 have hA5:w5.heap[w.heap.size + 1]?=some (AB kd kv vs):=keep hg45 h4.hA (fun e=>by have:=(hvl _ e.symm).1;omega)
 refine ⟨gr_setM (gr_then h4.hG hg45 (fun j hj=>by have:=(hvl j hj).1;omega)) (by omega) _ _,?_,?_⟩
 ·rw [Below.heap_setCell _ _ _ _ (by simp)];exact keep hg45 h4.hZ (fun e=>by have:=(hvl _ e.symm).1;omega)
 ·simp [World.setCell,Array.getElem?_modify,hA5,AB]
theorem ColX.isV (h:ColX w wr b kv vs keys acc S cells):IsV (fun k=>S k∨vs.ownBlock=some k) wr (.arr acc) nilS vs:=by
 simp only [IsV]
 exact ⟨SlAt.nil _ _ _,cells,SlAt.of_row h.hO _ (fun k hk=>.inr hk),IsVs.keep (fun k hk=>⟨.inl hk,rfl⟩) _ _ h.hI⟩
theorem ColX.isD (h:ColX w wr b kv vs keys acc S cells):IsV (fun k=>S k∨vs.ownBlock=some k∨kv.ownBlock=some k) wr (.dict keys acc) kv vs:=by
 simp only [IsV]
 exact ⟨SlAt.of_row h.hK _ (fun k hk=>.inr (.inr hk)),cells,SlAt.of_row h.hO _ (fun k hk=>.inr (.inl hk)),IsVs.keep (fun k hk=>⟨.inl hk,rfl⟩) _ _ h.hI⟩
theorem ColX.bound (h:ColX w wr b kv vs keys acc S cells) (k:Nat) (hk:S k∨vs.ownBlock=some k):w.heap.size + 2≤k∧k < wr.heap.size:=by
 rcases hk with hk | hk
 ·exact ⟨(h.hS k hk).1,(h.hS k hk).2.1⟩
 ·exact World.ownsRow.lt h.hO k hk
theorem ColX.boundD (h:ColX w wr b kv vs keys acc S cells) (k:Nat) (hk:S k∨vs.ownBlock=some k∨kv.ownBlock=some k):w.heap.size + 2≤k∧k < wr.heap.size:=by
 rcases hk with hk | hk | hk
 ·exact ⟨(h.hS k hk).1,(h.hS k hk).2.1⟩
 ·exact World.ownsRow.lt h.hO k hk
 ·exact World.ownsRow.lt h.hK k hk
end
def ArrI (w wr:World) (b:Nat) (s:ByteArray) (deep:Int) (ends:Bool) (f:By→Bool→Rd PV) (R:Rd (List PV)) (g:Nat):Prop :=
 (∃ so sn sc p' l' o' m acc S cells,ColG w wr b 6 (.slice none 0 0) (.slice so sn sc) [] acc S cells∧g=l'.length + 1∧l'.length≤m∧acc.length + l'.length≤s.size∧rdArr f m l' o' acc=R∧RdAt wr b s p' l' 0 deep o' ends)
 ∨ (R=none∧g=0∧w.grownBy wr (some b)∧wr.heap[w.heap.size]?=some (.cells #[.int .i64 0,.int .i64 0,.int .i64 0,.float .f64 0,.string ⟨#[]⟩,.slice none 0 0,.slice none 0 0] 30 (0,0))∧(∃ so sn sc,wr.heap[w.heap.size + 1]?=some (AB 6 (.slice none 0 0) (.slice so sn sc)))∧∃ p' l' o' bad en',bad≠0∧RdAt wr b s p' l' bad deep o' en')
theorem pre1 (n:UInt8) (l:By):[n].isPrefixOf l=headIs l (· == (n.toNat:Int)):=by
 cases l with
 | nil=>rfl
 | cons c l =>
  simp only [List.isPrefixOf,headIs,Bool.and_true]
  rw [Bool.eq_iff_iff]
  simp only [beq_iff_eq]
  constructor
  ·intro e;rw [e]
  ·intro e;apply UInt8.toNat_inj.1;omega
end Go.Proofs.YtfkecmlmnhbmoaaGreatDoor
