/- The texts B1a B1b B1c B1d B1z B2 of the workbench, laid together. -/
import Derived.Test.YtfkecmlmnhbmoaaGreatDoorProg
import Derived.WalkKit
import Derived.WalkLawsBesides
import Derived.WalkSpells
import Derived.BigQuiet
import Derived.BigRegion
import Derived.Deep.QuietTactic
import Derived.Deep.RegionHeld3
import Derived.Deep.LoopGhost
import Derived.StillTailTactics
import Derived.Lib.Hide
import Derived.Laws.EntriesVeiled
import Derived.Test.YtfkecmlmnhbmoaaGreatDoorY9
set_option linter.unusedVariables false
set_option linter.unusedSimpArgs false
namespace Go.Proofs.YtfkecmlmnhbmoaaGreatDoor
open Go Go.RowKit
set_option maxRecDepth 100000 in
set_option maxHeartbeats 40000000 in
theorem number_nil (pf:By→Nat) (W0 w:World) (HI:Hid (Init W0)) (Hpf:Hid (PFC pf W0)) (HE:Hid (Env W0 w)) (s:ByteArray)  (Hl:Hid (s.data.toList=([]:By))) (Hz:Hid (s.size=(([]:By)).length))  (Hst:Hid (numStrip (([]:By))=([]:By))) (hs:s.size≤140737488351240) :
  Calls Tryz.prog 63 #[.string s] w fun e w'=>e=numRet (numF pf (([]:By)))∧w.grownBy w' none:=by
 have h0:¬0 < s.size:=by have:=Hz.out;simp at this;simp [this]
 go_enter Tryz.func63,Tryz.ntmps63
 go_wp2_with fail
 go_loopg [5,6,7,8] (([]:By)).length (fun g t5 t6 t7 t8 wr=>∃ q l' d p a,g=l'.length∧t5=.int .i64 d∧t6=.int .i64 p∧t7=.int .i64 a∧t8=.int .i64 ((([]:By) ++ q).length:Nat)∧NumInv w wr s (([]:By)) (([]:By)) q l' d p a)
 case atStart=>exact ⟨[],([]:By),0,0,0,rfl,rfl,rfl,rfl,rfl,⟨by simpa using Hl.out,rfl,gr_alloc (World.grownBy.refl _ _) _,heap_alloc_new w _,by omega,by omega,by omega,by simp,by omega⟩⟩
 case round =>
  obtain ⟨q,l',d,p,a,hg,rfl,rfl,rfl,rfl,hS,hF,hG,hZ,hd0',hp0',ha0',hq1,had⟩:=hrel
  have hszq:s.size=(([]:By) ++ q).length + l'.length:=by have:=congrArg List.length hS;simp at this ⊢;omega
  have hB2:=hG.size
  have HS:=Lib.hid hS
  have HF:=Lib.hid hF
  have HG:=Lib.hid hG
  have HZ:=Lib.hid hZ
  have Hg:=Lib.hid hg
  have Hzq:=Lib.hid hszq
  have hk:(([]:By) ++ q).length≤s.size:=by omega
  have hq2:q.length≤s.size:=by simp at hszq;omega
  clear hS hF hG hZ hg hszq
  obtain ⟨pq,hpq⟩:∃ pq,pq=([]:By) ++ q:=⟨_,rfl⟩
  rw [←hpq] at hk HS Hzq ⊢
  have Hpq:=Lib.hid hpq;clear hpq
  cases l' with
  | nil =>
   have hlt:¬pq.length < s.size:=by have:=Hzq.out;simp at this;omega
   obtain ⟨z0,z1,z2,z3,z4,z5,z6,zf⟩:=zb_cells HZ.out
   have HG1:=HG
   rcases Bool.eq_false_or_eq_true (d == 0) with hd0 | hd0
   ·go_wp2_with fail
    refine bodyPost_ret (v:=.tuple #[numV 0 0 0,.int .i64 1]) (by simp [results,Tryz.results63,go_sem,numV,z0,z1,z2,z3,z4,z5,z6]) rfl ⟨?_,(by repeat (first | with_reducible exact HG1.out | with_reducible exact HG.out | with_reducible apply gr_alloc | with_reducible apply gr_drewN | with_reducible apply gr_drew | ((with_reducible refine gr_setN ?_ ?_ _ _);rotate_left;(first | omega | (simp;omega) | simp))))⟩
    rw [numF_end Hst.out HF.out,if_pos (.inl hd0)];rfl
   ·rcases Bool.eq_false_or_eq_true (decide (1 < p)) with hp1 | hp1
    ·go_wp2_with fail
     refine bodyPost_ret (v:=.tuple #[numV 0 0 0,.int .i64 1]) (by simp [results,Tryz.results63,go_sem,numV,z0,z1,z2,z3,z4,z5,z6]) rfl ⟨?_,(by repeat (first | with_reducible exact HG1.out | with_reducible exact HG.out | with_reducible apply gr_alloc | with_reducible apply gr_drewN | with_reducible apply gr_drew | ((with_reducible refine gr_setN ?_ ?_ _ _);rotate_left;(first | omega | (simp;omega) | simp))))⟩
     rw [numF_end Hst.out HF.out,if_pos (.inr (by simpa using hp1))];rfl
    ·rcases Bool.eq_false_or_eq_true (decide (14 < a)) with ha1 | ha1
     ·go_wp2_with fail
      refine bodyPost_ret (v:=.tuple #[numV 0 0 0,.int .i64 2]) (by simp [results,Tryz.results63,go_sem,numV,z0,z1,z2,z3,z4,z5,z6]) rfl ⟨?_,(by repeat (first | with_reducible exact HG1.out | with_reducible exact HG.out | with_reducible apply gr_alloc | with_reducible apply gr_drewN | with_reducible apply gr_drew | ((with_reducible refine gr_setN ?_ ?_ _ _);rotate_left;(first | omega | (simp;omega) | simp))))⟩
      rw [numF_end Hst.out HF.out,if_neg (by simp at hd0 hp1 ⊢;omega),if_pos (.inl (by simpa using ha1))];rfl
     ·rcases Bool.eq_false_or_eq_true (decide (60 < d)) with hd1 | hd1
      ·go_wp2_with fail
       refine bodyPost_ret (v:=.tuple #[numV 0 0 0,.int .i64 2]) (by simp [results,Tryz.results63,go_sem,numV,z0,z1,z2,z3,z4,z5,z6]) rfl ⟨?_,(by repeat (first | with_reducible exact HG1.out | with_reducible exact HG.out | with_reducible apply gr_alloc | with_reducible apply gr_drewN | with_reducible apply gr_drew | ((with_reducible refine gr_setN ?_ ?_ _ _);rotate_left;(first | omega | (simp;omega) | simp))))⟩
       rw [numF_end Hst.out HF.out,if_neg (by simp at hd0 hp1 ⊢;omega),if_pos (.inr (by simpa using hd1))];rfl
      ·have HE1:=Lib.hid (HE.out.grown0 (show w.grownBy wr none from HG.out))
       rcases Bool.eq_false_or_eq_true (p == 1) with hp2 | hp2
       ·have hok:=Lib.hid (num_ok Hst.out HF.out (by simpa using hd0) (by simpa using hp2) (by simpa using ha1) (by simpa using hd1) hd0')
        have hres:=Lib.hid (num_real (pf:=pf) Hst.out HF.out (by simpa using hd0) (by simpa using hp2) (by simpa using ha1) (by simpa using hd1))
        clear hd0' hp0' ha0' hq1 had
        go_wp2_with fail
        refine (Hpf.out.at Hl.out hok.out (by exact HE1.out)).mono ?_
        rintro e w1 ⟨rfl,hg1⟩
        have HZ1:=Lib.hid ((hg1.block w.heap.size (Array.getElem?_eq_some_iff.1 HZ.out).1 (by simp)).trans HZ.out)
        clear z0 z1 z2 z3 z4 z5 z6 zf
        obtain ⟨z0,z1,z2,z3,z4,z5,z6,zf⟩:=zb_cells HZ1.out
        have HG1:=Lib.hid (gr_noneThen (show w.grownBy wr none from HG.out) hg1 (fun j hj=>by cases hj))
        go_wp2_with fail
        refine bodyPost_ret (v:=.tuple #[numV 3 0 (pf (([]:By) ++ ([]:By))),.int .i64 0]) (by simp [results,Tryz.results63,go_sem,numV,z0,z1,z2,z3,z4,z5,z6]) rfl ⟨?_,(by repeat (first | with_reducible exact HG1.out | with_reducible exact HG.out | with_reducible apply gr_alloc | with_reducible apply gr_drewN | with_reducible apply gr_drew | ((with_reducible refine gr_setN ?_ ?_ _ _);rotate_left;(first | omega | (simp;omega) | simp))))⟩
        rw [hres.out];rfl
       ·have hne:=Lib.hid (num_int (pf:=pf) Hst.out HF.out (by simpa using hd0) (by simpa using hp1) (by simpa using hp2) (by simpa using ha1) (by simpa using hd1))
        clear hd0' hp0' ha0' hq1 had
        go_wp2_with fail
        refine (atoi_any W0 _ HI.out (by exact HE1.out) s (by omega)).mono ?_
        rintro e w1 ⟨hg1,⟨v,hv,rfl⟩ | ⟨v,N,hv,rfl⟩⟩
        ·have HZ1:=Lib.hid ((hg1.block w.heap.size (Array.getElem?_eq_some_iff.1 HZ.out).1 (by simp)).trans HZ.out)
         clear z0 z1 z2 z3 z4 z5 z6 zf
         obtain ⟨z0,z1,z2,z3,z4,z5,z6,zf⟩:=zb_cells HZ1.out
         have HG1:=Lib.hid (gr_noneThen (show w.grownBy wr none from HG.out) hg1 (fun j hj=>by cases hj))
         have Hv:=Lib.hid hv;clear hv
         rcases Bool.eq_false_or_eq_true (decide (2147483647 < v)) with hv1 | hv1
         ·go_wp2_with fail
          refine bodyPost_ret (v:=.tuple #[numV 0 0 0,.int .i64 2]) (by simp [results,Tryz.results63,go_sem,numV,z0,z1,z2,z3,z4,z5,z6]) rfl ⟨?_,(by repeat (first | with_reducible exact HG1.out | with_reducible exact HG.out | with_reducible apply gr_alloc | with_reducible apply gr_drewN | with_reducible apply gr_drew | ((with_reducible refine gr_setN ?_ ?_ _ _);rotate_left;(first | omega | (simp;omega) | simp))))⟩
          rw [hne.out.1 v (by rw [←Hl.out];exact Hv.out),if_pos (.inl (by simpa using hv1))];rfl
         ·rcases Bool.eq_false_or_eq_true (decide (v < -2147483648)) with hv2 | hv2
          ·go_wp2_with fail
           refine bodyPost_ret (v:=.tuple #[numV 0 0 0,.int .i64 2]) (by simp [results,Tryz.results63,go_sem,numV,z0,z1,z2,z3,z4,z5,z6]) rfl ⟨?_,(by repeat (first | with_reducible exact HG1.out | with_reducible exact HG.out | with_reducible apply gr_alloc | with_reducible apply gr_drewN | with_reducible apply gr_drew | ((with_reducible refine gr_setN ?_ ?_ _ _);rotate_left;(first | omega | (simp;omega) | simp))))⟩
           rw [hne.out.1 v (by rw [←Hl.out];exact Hv.out),if_pos (.inr (by simpa using hv2))];rfl
          ·go_wp2_with fail
           refine bodyPost_ret (v:=.tuple #[numV 2 v 0,.int .i64 0]) (by simp [results,Tryz.results63,go_sem,numV,z0,z1,z2,z3,z4,z5,z6]) rfl ⟨?_,(by repeat (first | with_reducible exact HG1.out | with_reducible exact HG.out | with_reducible apply gr_alloc | with_reducible apply gr_drewN | with_reducible apply gr_drew | ((with_reducible refine gr_setN ?_ ?_ _ _);rotate_left;(first | omega | (simp;omega) | simp))))⟩
           rw [hne.out.1 v (by rw [←Hl.out];exact Hv.out),if_neg (by simp at hv1 hv2;omega)];rfl
        ·have HZ1:=Lib.hid ((hg1.block w.heap.size (Array.getElem?_eq_some_iff.1 HZ.out).1 (by simp)).trans HZ.out)
         clear z0 z1 z2 z3 z4 z5 z6 zf
         obtain ⟨z0,z1,z2,z3,z4,z5,z6,zf⟩:=zb_cells HZ1.out
         have HG1:=Lib.hid (gr_noneThen (show w.grownBy wr none from HG.out) hg1 (fun j hj=>by cases hj))
         have Hv:=Lib.hid hv;clear hv
         go_wp2_with fail
         refine bodyPost_ret (v:=.tuple #[numV 0 0 0,.int .i64 2]) (by simp [results,Tryz.results63,go_sem,numV,z0,z1,z2,z3,z4,z5,z6]) rfl ⟨?_,(by repeat (first | with_reducible exact HG1.out | with_reducible exact HG.out | with_reducible apply gr_alloc | with_reducible apply gr_drewN | with_reducible apply gr_drew | ((with_reducible refine gr_setN ?_ ?_ _ _);rotate_left;(first | omega | (simp;omega) | simp))))⟩
         rw [hne.out.2 (by rw [←Hl.out];exact Hv.out)];rfl
  | cons c3 l3 =>
   obtain ⟨hlt3,hc3,hd3,hr3,hr4⟩:=at_byte HS.out
   exfalso;omega
end Go.Proofs.YtfkecmlmnhbmoaaGreatDoor
namespace Go.Proofs.YtfkecmlmnhbmoaaGreatDoor
open Go Go.RowKit
set_option maxRecDepth 100000 in
set_option maxHeartbeats 40000000 in
theorem number_plus (pf:By→Nat) (W0 w:World) (HI:Hid (Init W0)) (Hpf:Hid (PFC pf W0)) (HE:Hid (Env W0 w)) (s:ByteArray) (c:UInt8) (l2:By) (Hl:Hid (s.data.toList=(c::l2))) (Hz:Hid (s.size=((c::l2)).length)) (h1:((c.toNat:Int) == 43)=true) (Hst:Hid (numStrip ((c::l2))=l2)) (hs:s.size≤140737488351240) :
  Calls Tryz.prog 63 #[.string s] w fun e w'=>e=numRet (numF pf ((c::l2)))∧w.grownBy w' none:=by
 obtain ⟨h0,hc,hd,hr0,hr1⟩:=at_byte (pre:=[]) (by simpa using Hl.out)
 simp only [List.length_nil] at h0 hc hd
 go_enter Tryz.func63,Tryz.ntmps63
 go_wp2_with fail
 go_loopg [5,6,7,8] (l2).length (fun g t5 t6 t7 t8 wr=>∃ q l' d p a,g=l'.length∧t5=.int .i64 d∧t6=.int .i64 p∧t7=.int .i64 a∧t8=.int .i64 ((([c]:By) ++ q).length:Nat)∧NumInv w wr s (([c]:By)) (l2) q l' d p a)
 case atStart=>exact ⟨[],l2,0,0,0,rfl,rfl,rfl,rfl,rfl,⟨by simpa using Hl.out,rfl,gr_alloc (World.grownBy.refl _ _) _,heap_alloc_new w _,by omega,by omega,by omega,by simp,by omega⟩⟩
 case round =>
  obtain ⟨q,l',d,p,a,hg,rfl,rfl,rfl,rfl,hS,hF,hG,hZ,hd0',hp0',ha0',hq1,had⟩:=hrel
  have hszq:s.size=(([c]:By) ++ q).length + l'.length:=by have:=congrArg List.length hS;simp at this ⊢;omega
  have hB2:=hG.size
  have HS:=Lib.hid hS
  have HF:=Lib.hid hF
  have HG:=Lib.hid hG
  have HZ:=Lib.hid hZ
  have Hg:=Lib.hid hg
  have Hzq:=Lib.hid hszq
  have hk:(([c]:By) ++ q).length≤s.size:=by omega
  have hq2:q.length≤s.size:=by simp at hszq;omega
  clear hS hF hG hZ hg hszq
  obtain ⟨pq,hpq⟩:∃ pq,pq=([c]:By) ++ q:=⟨_,rfl⟩
  rw [←hpq] at hk HS Hzq ⊢
  have Hpq:=Lib.hid hpq;clear hpq
  cases l' with
  | nil =>
   have hlt:¬pq.length < s.size:=by have:=Hzq.out;simp at this;omega
   obtain ⟨z0,z1,z2,z3,z4,z5,z6,zf⟩:=zb_cells HZ.out
   have HG1:=HG
   rcases Bool.eq_false_or_eq_true (d == 0) with hd0 | hd0
   ·go_wp2_with fail
    refine bodyPost_ret (v:=.tuple #[numV 0 0 0,.int .i64 1]) (by simp [results,Tryz.results63,go_sem,numV,z0,z1,z2,z3,z4,z5,z6]) rfl ⟨?_,(by repeat (first | with_reducible exact HG1.out | with_reducible exact HG.out | with_reducible apply gr_alloc | with_reducible apply gr_drewN | with_reducible apply gr_drew | ((with_reducible refine gr_setN ?_ ?_ _ _);rotate_left;(first | omega | (simp;omega) | simp))))⟩
    rw [numF_end Hst.out HF.out,if_pos (.inl hd0)];rfl
   ·rcases Bool.eq_false_or_eq_true (decide (1 < p)) with hp1 | hp1
    ·go_wp2_with fail
     refine bodyPost_ret (v:=.tuple #[numV 0 0 0,.int .i64 1]) (by simp [results,Tryz.results63,go_sem,numV,z0,z1,z2,z3,z4,z5,z6]) rfl ⟨?_,(by repeat (first | with_reducible exact HG1.out | with_reducible exact HG.out | with_reducible apply gr_alloc | with_reducible apply gr_drewN | with_reducible apply gr_drew | ((with_reducible refine gr_setN ?_ ?_ _ _);rotate_left;(first | omega | (simp;omega) | simp))))⟩
     rw [numF_end Hst.out HF.out,if_pos (.inr (by simpa using hp1))];rfl
    ·rcases Bool.eq_false_or_eq_true (decide (14 < a)) with ha1 | ha1
     ·go_wp2_with fail
      refine bodyPost_ret (v:=.tuple #[numV 0 0 0,.int .i64 2]) (by simp [results,Tryz.results63,go_sem,numV,z0,z1,z2,z3,z4,z5,z6]) rfl ⟨?_,(by repeat (first | with_reducible exact HG1.out | with_reducible exact HG.out | with_reducible apply gr_alloc | with_reducible apply gr_drewN | with_reducible apply gr_drew | ((with_reducible refine gr_setN ?_ ?_ _ _);rotate_left;(first | omega | (simp;omega) | simp))))⟩
      rw [numF_end Hst.out HF.out,if_neg (by simp at hd0 hp1 ⊢;omega),if_pos (.inl (by simpa using ha1))];rfl
     ·rcases Bool.eq_false_or_eq_true (decide (60 < d)) with hd1 | hd1
      ·go_wp2_with fail
       refine bodyPost_ret (v:=.tuple #[numV 0 0 0,.int .i64 2]) (by simp [results,Tryz.results63,go_sem,numV,z0,z1,z2,z3,z4,z5,z6]) rfl ⟨?_,(by repeat (first | with_reducible exact HG1.out | with_reducible exact HG.out | with_reducible apply gr_alloc | with_reducible apply gr_drewN | with_reducible apply gr_drew | ((with_reducible refine gr_setN ?_ ?_ _ _);rotate_left;(first | omega | (simp;omega) | simp))))⟩
       rw [numF_end Hst.out HF.out,if_neg (by simp at hd0 hp1 ⊢;omega),if_pos (.inr (by simpa using hd1))];rfl
      ·have HE1:=Lib.hid (HE.out.grown0 (show w.grownBy wr none from HG.out))
       rcases Bool.eq_false_or_eq_true (p == 1) with hp2 | hp2
       ·have hok:=Lib.hid (num_ok Hst.out HF.out (by simpa using hd0) (by simpa using hp2) (by simpa using ha1) (by simpa using hd1) hd0')
        have hres:=Lib.hid (num_real (pf:=pf) Hst.out HF.out (by simpa using hd0) (by simpa using hp2) (by simpa using ha1) (by simpa using hd1))
        clear hd0' hp0' ha0' hq1 had
        go_wp2_with fail
        refine (Hpf.out.at Hl.out hok.out (by exact HE1.out)).mono ?_
        rintro e w1 ⟨rfl,hg1⟩
        have HZ1:=Lib.hid ((hg1.block w.heap.size (Array.getElem?_eq_some_iff.1 HZ.out).1 (by simp)).trans HZ.out)
        clear z0 z1 z2 z3 z4 z5 z6 zf
        obtain ⟨z0,z1,z2,z3,z4,z5,z6,zf⟩:=zb_cells HZ1.out
        have HG1:=Lib.hid (gr_noneThen (show w.grownBy wr none from HG.out) hg1 (fun j hj=>by cases hj))
        go_wp2_with fail
        refine bodyPost_ret (v:=.tuple #[numV 3 0 (pf (([c]:By) ++ l2)),.int .i64 0]) (by simp [results,Tryz.results63,go_sem,numV,z0,z1,z2,z3,z4,z5,z6]) rfl ⟨?_,(by repeat (first | with_reducible exact HG1.out | with_reducible exact HG.out | with_reducible apply gr_alloc | with_reducible apply gr_drewN | with_reducible apply gr_drew | ((with_reducible refine gr_setN ?_ ?_ _ _);rotate_left;(first | omega | (simp;omega) | simp))))⟩
        rw [hres.out];rfl
       ·have hne:=Lib.hid (num_int (pf:=pf) Hst.out HF.out (by simpa using hd0) (by simpa using hp1) (by simpa using hp2) (by simpa using ha1) (by simpa using hd1))
        clear hd0' hp0' ha0' hq1 had
        go_wp2_with fail
        refine (atoi_any W0 _ HI.out (by exact HE1.out) s (by omega)).mono ?_
        rintro e w1 ⟨hg1,⟨v,hv,rfl⟩ | ⟨v,N,hv,rfl⟩⟩
        ·have HZ1:=Lib.hid ((hg1.block w.heap.size (Array.getElem?_eq_some_iff.1 HZ.out).1 (by simp)).trans HZ.out)
         clear z0 z1 z2 z3 z4 z5 z6 zf
         obtain ⟨z0,z1,z2,z3,z4,z5,z6,zf⟩:=zb_cells HZ1.out
         have HG1:=Lib.hid (gr_noneThen (show w.grownBy wr none from HG.out) hg1 (fun j hj=>by cases hj))
         have Hv:=Lib.hid hv;clear hv
         rcases Bool.eq_false_or_eq_true (decide (2147483647 < v)) with hv1 | hv1
         ·go_wp2_with fail
          refine bodyPost_ret (v:=.tuple #[numV 0 0 0,.int .i64 2]) (by simp [results,Tryz.results63,go_sem,numV,z0,z1,z2,z3,z4,z5,z6]) rfl ⟨?_,(by repeat (first | with_reducible exact HG1.out | with_reducible exact HG.out | with_reducible apply gr_alloc | with_reducible apply gr_drewN | with_reducible apply gr_drew | ((with_reducible refine gr_setN ?_ ?_ _ _);rotate_left;(first | omega | (simp;omega) | simp))))⟩
          rw [hne.out.1 v (by rw [←Hl.out];exact Hv.out),if_pos (.inl (by simpa using hv1))];rfl
         ·rcases Bool.eq_false_or_eq_true (decide (v < -2147483648)) with hv2 | hv2
          ·go_wp2_with fail
           refine bodyPost_ret (v:=.tuple #[numV 0 0 0,.int .i64 2]) (by simp [results,Tryz.results63,go_sem,numV,z0,z1,z2,z3,z4,z5,z6]) rfl ⟨?_,(by repeat (first | with_reducible exact HG1.out | with_reducible exact HG.out | with_reducible apply gr_alloc | with_reducible apply gr_drewN | with_reducible apply gr_drew | ((with_reducible refine gr_setN ?_ ?_ _ _);rotate_left;(first | omega | (simp;omega) | simp))))⟩
           rw [hne.out.1 v (by rw [←Hl.out];exact Hv.out),if_pos (.inr (by simpa using hv2))];rfl
          ·go_wp2_with fail
           refine bodyPost_ret (v:=.tuple #[numV 2 v 0,.int .i64 0]) (by simp [results,Tryz.results63,go_sem,numV,z0,z1,z2,z3,z4,z5,z6]) rfl ⟨?_,(by repeat (first | with_reducible exact HG1.out | with_reducible exact HG.out | with_reducible apply gr_alloc | with_reducible apply gr_drewN | with_reducible apply gr_drew | ((with_reducible refine gr_setN ?_ ?_ _ _);rotate_left;(first | omega | (simp;omega) | simp))))⟩
           rw [hne.out.1 v (by rw [←Hl.out];exact Hv.out),if_neg (by simp at hv1 hv2;omega)];rfl
        ·have HZ1:=Lib.hid ((hg1.block w.heap.size (Array.getElem?_eq_some_iff.1 HZ.out).1 (by simp)).trans HZ.out)
         clear z0 z1 z2 z3 z4 z5 z6 zf
         obtain ⟨z0,z1,z2,z3,z4,z5,z6,zf⟩:=zb_cells HZ1.out
         have HG1:=Lib.hid (gr_noneThen (show w.grownBy wr none from HG.out) hg1 (fun j hj=>by cases hj))
         have Hv:=Lib.hid hv;clear hv
         go_wp2_with fail
         refine bodyPost_ret (v:=.tuple #[numV 0 0 0,.int .i64 2]) (by simp [results,Tryz.results63,go_sem,numV,z0,z1,z2,z3,z4,z5,z6]) rfl ⟨?_,(by repeat (first | with_reducible exact HG1.out | with_reducible exact HG.out | with_reducible apply gr_alloc | with_reducible apply gr_drewN | with_reducible apply gr_drew | ((with_reducible refine gr_setN ?_ ?_ _ _);rotate_left;(first | omega | (simp;omega) | simp))))⟩
         rw [hne.out.2 (by rw [←Hl.out];exact Hv.out)];rfl
  | cons c3 l3 =>
   obtain ⟨hlt3,hc3,hd3,hr3,hr4⟩:=at_byte HS.out
   cases hdg:isDig (c3.toNat:Int)
   ·rcases Bool.eq_false_or_eq_true ((c3.toNat:Int) == 46) with hpt | hpt
    ·go_wp2_with (go_at_call 75;refine (digit_eq hdg _).mono ?_;rintro e w' ⟨rfl,hw'⟩;subst w')
     go_roundg l3.length
     case measure=>rw [Hg.out];simp
     case rel =>
      refine ⟨q ++ [c3],l3,d,p + 1,a,rfl,rfl,rfl,rfl,by rw [←List.append_assoc,←Hpq.out];simp,⟨by rw [←List.append_assoc,←Hpq.out,HS.out];simp,?_,HG.out,HZ.out,by omega,by omega,by omega,by simp;omega,by omega⟩⟩
      rw [←HF.out];simp [numScan,hdg,hpt]
    ·obtain ⟨z0,z1,z2,z3,z4,z5,z6,zf⟩:=zb_cells HZ.out
     go_wp2_with fail
     refine (digit_eq hdg _).mono ?_
     rintro e w' ⟨rfl,hw'⟩
     subst w'
     go_wp2_with fail
     refine bodyPost_ret (v:=.tuple #[numV 0 0 0,.int .i64 1]) (by simp [results,Tryz.results63,go_sem,numV,z0,z1,z2,z3,z4,z5,z6]) rfl ⟨?_,(by repeat (first | with_reducible exact HG1.out | with_reducible exact HG.out | with_reducible apply gr_alloc | with_reducible apply gr_drewN | with_reducible apply gr_drew | ((with_reducible refine gr_setN ?_ ?_ _ _);rotate_left;(first | omega | (simp;omega) | simp))))⟩
     have hN:numScan (l2) 0 0 0=none:=by rw [←HF.out];simp [numScan,hdg,hpt]
     rw [numF_none Hst.out hN];rfl
   ·rcases Bool.eq_false_or_eq_true (p == 0) with hp0 | hp0
    ·go_wp2_with (go_at_call 75;refine (digit_eq hdg _).mono ?_;rintro e w' ⟨rfl,hw'⟩;subst w')
     go_roundg l3.length
     case measure=>rw [Hg.out];simp
     case rel =>
      refine ⟨q ++ [c3],l3,d + 1,p,a + 1,rfl,rfl,rfl,rfl,by rw [←List.append_assoc,←Hpq.out];simp,⟨by rw [←List.append_assoc,←Hpq.out,HS.out];simp,?_,HG.out,HZ.out,by omega,by omega,by omega,by simp;omega,by omega⟩⟩
      simp only [beq_iff_eq] at hp0;rw [←HF.out];simp [numScan,hdg,hp0]
    ·go_wp2_with (go_at_call 75;refine (digit_eq hdg _).mono ?_;rintro e w' ⟨rfl,hw'⟩;subst w')
     go_roundg l3.length
     case measure=>rw [Hg.out];simp
     case rel =>
      refine ⟨q ++ [c3],l3,d + 1,p,a,rfl,rfl,rfl,rfl,by rw [←List.append_assoc,←Hpq.out];simp,⟨by rw [←List.append_assoc,←Hpq.out,HS.out];simp,?_,HG.out,HZ.out,by omega,by omega,by omega,by simp;omega,by omega⟩⟩
      simp only [beq_eq_false_iff_ne] at hp0;rw [←HF.out];simp [numScan,hdg,hp0]
end Go.Proofs.YtfkecmlmnhbmoaaGreatDoor
namespace Go.Proofs.YtfkecmlmnhbmoaaGreatDoor
open Go Go.RowKit
set_option maxRecDepth 100000 in
set_option maxHeartbeats 40000000 in
theorem number_minus (pf:By→Nat) (W0 w:World) (HI:Hid (Init W0)) (Hpf:Hid (PFC pf W0)) (HE:Hid (Env W0 w)) (s:ByteArray) (c:UInt8) (l2:By) (Hl:Hid (s.data.toList=(c::l2))) (Hz:Hid (s.size=((c::l2)).length)) (h1:((c.toNat:Int) == 43)=false) (h2:((c.toNat:Int) == 45)=true) (Hst:Hid (numStrip ((c::l2))=l2)) (hs:s.size≤140737488351240) :
  Calls Tryz.prog 63 #[.string s] w fun e w'=>e=numRet (numF pf ((c::l2)))∧w.grownBy w' none:=by
 obtain ⟨h0,hc,hd,hr0,hr1⟩:=at_byte (pre:=[]) (by simpa using Hl.out)
 simp only [List.length_nil] at h0 hc hd
 go_enter Tryz.func63,Tryz.ntmps63
 go_wp2_with fail
 go_loopg [5,6,7,8] (l2).length (fun g t5 t6 t7 t8 wr=>∃ q l' d p a,g=l'.length∧t5=.int .i64 d∧t6=.int .i64 p∧t7=.int .i64 a∧t8=.int .i64 ((([c]:By) ++ q).length:Nat)∧NumInv w wr s (([c]:By)) (l2) q l' d p a)
 case atStart=>exact ⟨[],l2,0,0,0,rfl,rfl,rfl,rfl,rfl,⟨by simpa using Hl.out,rfl,gr_alloc (World.grownBy.refl _ _) _,heap_alloc_new w _,by omega,by omega,by omega,by simp,by omega⟩⟩
 case round =>
  obtain ⟨q,l',d,p,a,hg,rfl,rfl,rfl,rfl,hS,hF,hG,hZ,hd0',hp0',ha0',hq1,had⟩:=hrel
  have hszq:s.size=(([c]:By) ++ q).length + l'.length:=by have:=congrArg List.length hS;simp at this ⊢;omega
  have hB2:=hG.size
  have HS:=Lib.hid hS
  have HF:=Lib.hid hF
  have HG:=Lib.hid hG
  have HZ:=Lib.hid hZ
  have Hg:=Lib.hid hg
  have Hzq:=Lib.hid hszq
  have hk:(([c]:By) ++ q).length≤s.size:=by omega
  have hq2:q.length≤s.size:=by simp at hszq;omega
  clear hS hF hG hZ hg hszq
  obtain ⟨pq,hpq⟩:∃ pq,pq=([c]:By) ++ q:=⟨_,rfl⟩
  rw [←hpq] at hk HS Hzq ⊢
  have Hpq:=Lib.hid hpq;clear hpq
  cases l' with
  | nil =>
   have hlt:¬pq.length < s.size:=by have:=Hzq.out;simp at this;omega
   obtain ⟨z0,z1,z2,z3,z4,z5,z6,zf⟩:=zb_cells HZ.out
   have HG1:=HG
   rcases Bool.eq_false_or_eq_true (d == 0) with hd0 | hd0
   ·go_wp2_with fail
    refine bodyPost_ret (v:=.tuple #[numV 0 0 0,.int .i64 1]) (by simp [results,Tryz.results63,go_sem,numV,z0,z1,z2,z3,z4,z5,z6]) rfl ⟨?_,(by repeat (first | with_reducible exact HG1.out | with_reducible exact HG.out | with_reducible apply gr_alloc | with_reducible apply gr_drewN | with_reducible apply gr_drew | ((with_reducible refine gr_setN ?_ ?_ _ _);rotate_left;(first | omega | (simp;omega) | simp))))⟩
    rw [numF_end Hst.out HF.out,if_pos (.inl hd0)];rfl
   ·rcases Bool.eq_false_or_eq_true (decide (1 < p)) with hp1 | hp1
    ·go_wp2_with fail
     refine bodyPost_ret (v:=.tuple #[numV 0 0 0,.int .i64 1]) (by simp [results,Tryz.results63,go_sem,numV,z0,z1,z2,z3,z4,z5,z6]) rfl ⟨?_,(by repeat (first | with_reducible exact HG1.out | with_reducible exact HG.out | with_reducible apply gr_alloc | with_reducible apply gr_drewN | with_reducible apply gr_drew | ((with_reducible refine gr_setN ?_ ?_ _ _);rotate_left;(first | omega | (simp;omega) | simp))))⟩
     rw [numF_end Hst.out HF.out,if_pos (.inr (by simpa using hp1))];rfl
    ·rcases Bool.eq_false_or_eq_true (decide (14 < a)) with ha1 | ha1
     ·go_wp2_with fail
      refine bodyPost_ret (v:=.tuple #[numV 0 0 0,.int .i64 2]) (by simp [results,Tryz.results63,go_sem,numV,z0,z1,z2,z3,z4,z5,z6]) rfl ⟨?_,(by repeat (first | with_reducible exact HG1.out | with_reducible exact HG.out | with_reducible apply gr_alloc | with_reducible apply gr_drewN | with_reducible apply gr_drew | ((with_reducible refine gr_setN ?_ ?_ _ _);rotate_left;(first | omega | (simp;omega) | simp))))⟩
      rw [numF_end Hst.out HF.out,if_neg (by simp at hd0 hp1 ⊢;omega),if_pos (.inl (by simpa using ha1))];rfl
     ·rcases Bool.eq_false_or_eq_true (decide (60 < d)) with hd1 | hd1
      ·go_wp2_with fail
       refine bodyPost_ret (v:=.tuple #[numV 0 0 0,.int .i64 2]) (by simp [results,Tryz.results63,go_sem,numV,z0,z1,z2,z3,z4,z5,z6]) rfl ⟨?_,(by repeat (first | with_reducible exact HG1.out | with_reducible exact HG.out | with_reducible apply gr_alloc | with_reducible apply gr_drewN | with_reducible apply gr_drew | ((with_reducible refine gr_setN ?_ ?_ _ _);rotate_left;(first | omega | (simp;omega) | simp))))⟩
       rw [numF_end Hst.out HF.out,if_neg (by simp at hd0 hp1 ⊢;omega),if_pos (.inr (by simpa using hd1))];rfl
      ·have HE1:=Lib.hid (HE.out.grown0 (show w.grownBy wr none from HG.out))
       rcases Bool.eq_false_or_eq_true (p == 1) with hp2 | hp2
       ·have hok:=Lib.hid (num_ok Hst.out HF.out (by simpa using hd0) (by simpa using hp2) (by simpa using ha1) (by simpa using hd1) hd0')
        have hres:=Lib.hid (num_real (pf:=pf) Hst.out HF.out (by simpa using hd0) (by simpa using hp2) (by simpa using ha1) (by simpa using hd1))
        clear hd0' hp0' ha0' hq1 had
        go_wp2_with fail
        refine (Hpf.out.at Hl.out hok.out (by exact HE1.out)).mono ?_
        rintro e w1 ⟨rfl,hg1⟩
        have HZ1:=Lib.hid ((hg1.block w.heap.size (Array.getElem?_eq_some_iff.1 HZ.out).1 (by simp)).trans HZ.out)
        clear z0 z1 z2 z3 z4 z5 z6 zf
        obtain ⟨z0,z1,z2,z3,z4,z5,z6,zf⟩:=zb_cells HZ1.out
        have HG1:=Lib.hid (gr_noneThen (show w.grownBy wr none from HG.out) hg1 (fun j hj=>by cases hj))
        go_wp2_with fail
        refine bodyPost_ret (v:=.tuple #[numV 3 0 (pf (([c]:By) ++ l2)),.int .i64 0]) (by simp [results,Tryz.results63,go_sem,numV,z0,z1,z2,z3,z4,z5,z6]) rfl ⟨?_,(by repeat (first | with_reducible exact HG1.out | with_reducible exact HG.out | with_reducible apply gr_alloc | with_reducible apply gr_drewN | with_reducible apply gr_drew | ((with_reducible refine gr_setN ?_ ?_ _ _);rotate_left;(first | omega | (simp;omega) | simp))))⟩
        rw [hres.out];rfl
       ·have hne:=Lib.hid (num_int (pf:=pf) Hst.out HF.out (by simpa using hd0) (by simpa using hp1) (by simpa using hp2) (by simpa using ha1) (by simpa using hd1))
        clear hd0' hp0' ha0' hq1 had
        go_wp2_with fail
        refine (atoi_any W0 _ HI.out (by exact HE1.out) s (by omega)).mono ?_
        rintro e w1 ⟨hg1,⟨v,hv,rfl⟩ | ⟨v,N,hv,rfl⟩⟩
        ·have HZ1:=Lib.hid ((hg1.block w.heap.size (Array.getElem?_eq_some_iff.1 HZ.out).1 (by simp)).trans HZ.out)
         clear z0 z1 z2 z3 z4 z5 z6 zf
         obtain ⟨z0,z1,z2,z3,z4,z5,z6,zf⟩:=zb_cells HZ1.out
         have HG1:=Lib.hid (gr_noneThen (show w.grownBy wr none from HG.out) hg1 (fun j hj=>by cases hj))
         have Hv:=Lib.hid hv;clear hv
         rcases Bool.eq_false_or_eq_true (decide (2147483647 < v)) with hv1 | hv1
         ·go_wp2_with fail
          refine bodyPost_ret (v:=.tuple #[numV 0 0 0,.int .i64 2]) (by simp [results,Tryz.results63,go_sem,numV,z0,z1,z2,z3,z4,z5,z6]) rfl ⟨?_,(by repeat (first | with_reducible exact HG1.out | with_reducible exact HG.out | with_reducible apply gr_alloc | with_reducible apply gr_drewN | with_reducible apply gr_drew | ((with_reducible refine gr_setN ?_ ?_ _ _);rotate_left;(first | omega | (simp;omega) | simp))))⟩
          rw [hne.out.1 v (by rw [←Hl.out];exact Hv.out),if_pos (.inl (by simpa using hv1))];rfl
         ·rcases Bool.eq_false_or_eq_true (decide (v < -2147483648)) with hv2 | hv2
          ·go_wp2_with fail
           refine bodyPost_ret (v:=.tuple #[numV 0 0 0,.int .i64 2]) (by simp [results,Tryz.results63,go_sem,numV,z0,z1,z2,z3,z4,z5,z6]) rfl ⟨?_,(by repeat (first | with_reducible exact HG1.out | with_reducible exact HG.out | with_reducible apply gr_alloc | with_reducible apply gr_drewN | with_reducible apply gr_drew | ((with_reducible refine gr_setN ?_ ?_ _ _);rotate_left;(first | omega | (simp;omega) | simp))))⟩
           rw [hne.out.1 v (by rw [←Hl.out];exact Hv.out),if_pos (.inr (by simpa using hv2))];rfl
          ·go_wp2_with fail
           refine bodyPost_ret (v:=.tuple #[numV 2 v 0,.int .i64 0]) (by simp [results,Tryz.results63,go_sem,numV,z0,z1,z2,z3,z4,z5,z6]) rfl ⟨?_,(by repeat (first | with_reducible exact HG1.out | with_reducible exact HG.out | with_reducible apply gr_alloc | with_reducible apply gr_drewN | with_reducible apply gr_drew | ((with_reducible refine gr_setN ?_ ?_ _ _);rotate_left;(first | omega | (simp;omega) | simp))))⟩
           rw [hne.out.1 v (by rw [←Hl.out];exact Hv.out),if_neg (by simp at hv1 hv2;omega)];rfl
        ·have HZ1:=Lib.hid ((hg1.block w.heap.size (Array.getElem?_eq_some_iff.1 HZ.out).1 (by simp)).trans HZ.out)
         clear z0 z1 z2 z3 z4 z5 z6 zf
         obtain ⟨z0,z1,z2,z3,z4,z5,z6,zf⟩:=zb_cells HZ1.out
         have HG1:=Lib.hid (gr_noneThen (show w.grownBy wr none from HG.out) hg1 (fun j hj=>by cases hj))
         have Hv:=Lib.hid hv;clear hv
         go_wp2_with fail
         refine bodyPost_ret (v:=.tuple #[numV 0 0 0,.int .i64 2]) (by simp [results,Tryz.results63,go_sem,numV,z0,z1,z2,z3,z4,z5,z6]) rfl ⟨?_,(by repeat (first | with_reducible exact HG1.out | with_reducible exact HG.out | with_reducible apply gr_alloc | with_reducible apply gr_drewN | with_reducible apply gr_drew | ((with_reducible refine gr_setN ?_ ?_ _ _);rotate_left;(first | omega | (simp;omega) | simp))))⟩
         rw [hne.out.2 (by rw [←Hl.out];exact Hv.out)];rfl
  | cons c3 l3 =>
   obtain ⟨hlt3,hc3,hd3,hr3,hr4⟩:=at_byte HS.out
   cases hdg:isDig (c3.toNat:Int)
   ·rcases Bool.eq_false_or_eq_true ((c3.toNat:Int) == 46) with hpt | hpt
    ·go_wp2_with (go_at_call 75;refine (digit_eq hdg _).mono ?_;rintro e w' ⟨rfl,hw'⟩;subst w')
     go_roundg l3.length
     case measure=>rw [Hg.out];simp
     case rel =>
      refine ⟨q ++ [c3],l3,d,p + 1,a,rfl,rfl,rfl,rfl,by rw [←List.append_assoc,←Hpq.out];simp,⟨by rw [←List.append_assoc,←Hpq.out,HS.out];simp,?_,HG.out,HZ.out,by omega,by omega,by omega,by simp;omega,by omega⟩⟩
      rw [←HF.out];simp [numScan,hdg,hpt]
    ·obtain ⟨z0,z1,z2,z3,z4,z5,z6,zf⟩:=zb_cells HZ.out
     go_wp2_with fail
     refine (digit_eq hdg _).mono ?_
     rintro e w' ⟨rfl,hw'⟩
     subst w'
     go_wp2_with fail
     refine bodyPost_ret (v:=.tuple #[numV 0 0 0,.int .i64 1]) (by simp [results,Tryz.results63,go_sem,numV,z0,z1,z2,z3,z4,z5,z6]) rfl ⟨?_,(by repeat (first | with_reducible exact HG1.out | with_reducible exact HG.out | with_reducible apply gr_alloc | with_reducible apply gr_drewN | with_reducible apply gr_drew | ((with_reducible refine gr_setN ?_ ?_ _ _);rotate_left;(first | omega | (simp;omega) | simp))))⟩
     have hN:numScan (l2) 0 0 0=none:=by rw [←HF.out];simp [numScan,hdg,hpt]
     rw [numF_none Hst.out hN];rfl
   ·rcases Bool.eq_false_or_eq_true (p == 0) with hp0 | hp0
    ·go_wp2_with (go_at_call 75;refine (digit_eq hdg _).mono ?_;rintro e w' ⟨rfl,hw'⟩;subst w')
     go_roundg l3.length
     case measure=>rw [Hg.out];simp
     case rel =>
      refine ⟨q ++ [c3],l3,d + 1,p,a + 1,rfl,rfl,rfl,rfl,by rw [←List.append_assoc,←Hpq.out];simp,⟨by rw [←List.append_assoc,←Hpq.out,HS.out];simp,?_,HG.out,HZ.out,by omega,by omega,by omega,by simp;omega,by omega⟩⟩
      simp only [beq_iff_eq] at hp0;rw [←HF.out];simp [numScan,hdg,hp0]
    ·go_wp2_with (go_at_call 75;refine (digit_eq hdg _).mono ?_;rintro e w' ⟨rfl,hw'⟩;subst w')
     go_roundg l3.length
     case measure=>rw [Hg.out];simp
     case rel =>
      refine ⟨q ++ [c3],l3,d + 1,p,a,rfl,rfl,rfl,rfl,by rw [←List.append_assoc,←Hpq.out];simp,⟨by rw [←List.append_assoc,←Hpq.out,HS.out];simp,?_,HG.out,HZ.out,by omega,by omega,by omega,by simp;omega,by omega⟩⟩
      simp only [beq_eq_false_iff_ne] at hp0;rw [←HF.out];simp [numScan,hdg,hp0]
end Go.Proofs.YtfkecmlmnhbmoaaGreatDoor
namespace Go.Proofs.YtfkecmlmnhbmoaaGreatDoor
open Go Go.RowKit
set_option maxRecDepth 100000 in
set_option maxHeartbeats 40000000 in
theorem number_else (pf:By→Nat) (W0 w:World) (HI:Hid (Init W0)) (Hpf:Hid (PFC pf W0)) (HE:Hid (Env W0 w)) (s:ByteArray) (c:UInt8) (l2:By) (Hl:Hid (s.data.toList=(c::l2))) (Hz:Hid (s.size=((c::l2)).length)) (h1:((c.toNat:Int) == 43)=false) (h2:((c.toNat:Int) == 45)=false) (Hst:Hid (numStrip ((c::l2))=(c::l2))) (hs:s.size≤140737488351240) :
  Calls Tryz.prog 63 #[.string s] w fun e w'=>e=numRet (numF pf ((c::l2)))∧w.grownBy w' none:=by
 obtain ⟨h0,hc,hd,hr0,hr1⟩:=at_byte (pre:=[]) (by simpa using Hl.out)
 simp only [List.length_nil] at h0 hc hd
 go_enter Tryz.func63,Tryz.ntmps63
 go_wp2_with fail
 go_loopg [5,6,7,8] ((c::l2)).length (fun g t5 t6 t7 t8 wr=>∃ q l' d p a,g=l'.length∧t5=.int .i64 d∧t6=.int .i64 p∧t7=.int .i64 a∧t8=.int .i64 ((([]:By) ++ q).length:Nat)∧NumInv w wr s (([]:By)) ((c::l2)) q l' d p a)
 case atStart=>exact ⟨[],(c::l2),0,0,0,rfl,rfl,rfl,rfl,rfl,⟨by simpa using Hl.out,rfl,gr_alloc (World.grownBy.refl _ _) _,heap_alloc_new w _,by omega,by omega,by omega,by simp,by omega⟩⟩
 case round =>
  obtain ⟨q,l',d,p,a,hg,rfl,rfl,rfl,rfl,hS,hF,hG,hZ,hd0',hp0',ha0',hq1,had⟩:=hrel
  have hszq:s.size=(([]:By) ++ q).length + l'.length:=by have:=congrArg List.length hS;simp at this ⊢;omega
  have hB2:=hG.size
  have HS:=Lib.hid hS
  have HF:=Lib.hid hF
  have HG:=Lib.hid hG
  have HZ:=Lib.hid hZ
  have Hg:=Lib.hid hg
  have Hzq:=Lib.hid hszq
  have hk:(([]:By) ++ q).length≤s.size:=by omega
  have hq2:q.length≤s.size:=by simp at hszq;omega
  clear hS hF hG hZ hg hszq
  obtain ⟨pq,hpq⟩:∃ pq,pq=([]:By) ++ q:=⟨_,rfl⟩
  rw [←hpq] at hk HS Hzq ⊢
  have Hpq:=Lib.hid hpq;clear hpq
  cases l' with
  | nil =>
   have hlt:¬pq.length < s.size:=by have:=Hzq.out;simp at this;omega
   obtain ⟨z0,z1,z2,z3,z4,z5,z6,zf⟩:=zb_cells HZ.out
   have HG1:=HG
   rcases Bool.eq_false_or_eq_true (d == 0) with hd0 | hd0
   ·go_wp2_with fail
    refine bodyPost_ret (v:=.tuple #[numV 0 0 0,.int .i64 1]) (by simp [results,Tryz.results63,go_sem,numV,z0,z1,z2,z3,z4,z5,z6]) rfl ⟨?_,(by repeat (first | with_reducible exact HG1.out | with_reducible exact HG.out | with_reducible apply gr_alloc | with_reducible apply gr_drewN | with_reducible apply gr_drew | ((with_reducible refine gr_setN ?_ ?_ _ _);rotate_left;(first | omega | (simp;omega) | simp))))⟩
    rw [numF_end Hst.out HF.out,if_pos (.inl hd0)];rfl
   ·rcases Bool.eq_false_or_eq_true (decide (1 < p)) with hp1 | hp1
    ·go_wp2_with fail
     refine bodyPost_ret (v:=.tuple #[numV 0 0 0,.int .i64 1]) (by simp [results,Tryz.results63,go_sem,numV,z0,z1,z2,z3,z4,z5,z6]) rfl ⟨?_,(by repeat (first | with_reducible exact HG1.out | with_reducible exact HG.out | with_reducible apply gr_alloc | with_reducible apply gr_drewN | with_reducible apply gr_drew | ((with_reducible refine gr_setN ?_ ?_ _ _);rotate_left;(first | omega | (simp;omega) | simp))))⟩
     rw [numF_end Hst.out HF.out,if_pos (.inr (by simpa using hp1))];rfl
    ·rcases Bool.eq_false_or_eq_true (decide (14 < a)) with ha1 | ha1
     ·go_wp2_with fail
      refine bodyPost_ret (v:=.tuple #[numV 0 0 0,.int .i64 2]) (by simp [results,Tryz.results63,go_sem,numV,z0,z1,z2,z3,z4,z5,z6]) rfl ⟨?_,(by repeat (first | with_reducible exact HG1.out | with_reducible exact HG.out | with_reducible apply gr_alloc | with_reducible apply gr_drewN | with_reducible apply gr_drew | ((with_reducible refine gr_setN ?_ ?_ _ _);rotate_left;(first | omega | (simp;omega) | simp))))⟩
      rw [numF_end Hst.out HF.out,if_neg (by simp at hd0 hp1 ⊢;omega),if_pos (.inl (by simpa using ha1))];rfl
     ·rcases Bool.eq_false_or_eq_true (decide (60 < d)) with hd1 | hd1
      ·go_wp2_with fail
       refine bodyPost_ret (v:=.tuple #[numV 0 0 0,.int .i64 2]) (by simp [results,Tryz.results63,go_sem,numV,z0,z1,z2,z3,z4,z5,z6]) rfl ⟨?_,(by repeat (first | with_reducible exact HG1.out | with_reducible exact HG.out | with_reducible apply gr_alloc | with_reducible apply gr_drewN | with_reducible apply gr_drew | ((with_reducible refine gr_setN ?_ ?_ _ _);rotate_left;(first | omega | (simp;omega) | simp))))⟩
       rw [numF_end Hst.out HF.out,if_neg (by simp at hd0 hp1 ⊢;omega),if_pos (.inr (by simpa using hd1))];rfl
      ·have HE1:=Lib.hid (HE.out.grown0 (show w.grownBy wr none from HG.out))
       rcases Bool.eq_false_or_eq_true (p == 1) with hp2 | hp2
       ·have hok:=Lib.hid (num_ok Hst.out HF.out (by simpa using hd0) (by simpa using hp2) (by simpa using ha1) (by simpa using hd1) hd0')
        have hres:=Lib.hid (num_real (pf:=pf) Hst.out HF.out (by simpa using hd0) (by simpa using hp2) (by simpa using ha1) (by simpa using hd1))
        clear hd0' hp0' ha0' hq1 had
        go_wp2_with fail
        refine (Hpf.out.at Hl.out hok.out (by exact HE1.out)).mono ?_
        rintro e w1 ⟨rfl,hg1⟩
        have HZ1:=Lib.hid ((hg1.block w.heap.size (Array.getElem?_eq_some_iff.1 HZ.out).1 (by simp)).trans HZ.out)
        clear z0 z1 z2 z3 z4 z5 z6 zf
        obtain ⟨z0,z1,z2,z3,z4,z5,z6,zf⟩:=zb_cells HZ1.out
        have HG1:=Lib.hid (gr_noneThen (show w.grownBy wr none from HG.out) hg1 (fun j hj=>by cases hj))
        go_wp2_with fail
        refine bodyPost_ret (v:=.tuple #[numV 3 0 (pf (([]:By) ++ (c::l2))),.int .i64 0]) (by simp [results,Tryz.results63,go_sem,numV,z0,z1,z2,z3,z4,z5,z6]) rfl ⟨?_,(by repeat (first | with_reducible exact HG1.out | with_reducible exact HG.out | with_reducible apply gr_alloc | with_reducible apply gr_drewN | with_reducible apply gr_drew | ((with_reducible refine gr_setN ?_ ?_ _ _);rotate_left;(first | omega | (simp;omega) | simp))))⟩
        rw [hres.out];rfl
       ·have hne:=Lib.hid (num_int (pf:=pf) Hst.out HF.out (by simpa using hd0) (by simpa using hp1) (by simpa using hp2) (by simpa using ha1) (by simpa using hd1))
        clear hd0' hp0' ha0' hq1 had
        go_wp2_with fail
        refine (atoi_any W0 _ HI.out (by exact HE1.out) s (by omega)).mono ?_
        rintro e w1 ⟨hg1,⟨v,hv,rfl⟩ | ⟨v,N,hv,rfl⟩⟩
        ·have HZ1:=Lib.hid ((hg1.block w.heap.size (Array.getElem?_eq_some_iff.1 HZ.out).1 (by simp)).trans HZ.out)
         clear z0 z1 z2 z3 z4 z5 z6 zf
         obtain ⟨z0,z1,z2,z3,z4,z5,z6,zf⟩:=zb_cells HZ1.out
         have HG1:=Lib.hid (gr_noneThen (show w.grownBy wr none from HG.out) hg1 (fun j hj=>by cases hj))
         have Hv:=Lib.hid hv;clear hv
         rcases Bool.eq_false_or_eq_true (decide (2147483647 < v)) with hv1 | hv1
         ·go_wp2_with fail
          refine bodyPost_ret (v:=.tuple #[numV 0 0 0,.int .i64 2]) (by simp [results,Tryz.results63,go_sem,numV,z0,z1,z2,z3,z4,z5,z6]) rfl ⟨?_,(by repeat (first | with_reducible exact HG1.out | with_reducible exact HG.out | with_reducible apply gr_alloc | with_reducible apply gr_drewN | with_reducible apply gr_drew | ((with_reducible refine gr_setN ?_ ?_ _ _);rotate_left;(first | omega | (simp;omega) | simp))))⟩
          rw [hne.out.1 v (by rw [←Hl.out];exact Hv.out),if_pos (.inl (by simpa using hv1))];rfl
         ·rcases Bool.eq_false_or_eq_true (decide (v < -2147483648)) with hv2 | hv2
          ·go_wp2_with fail
           refine bodyPost_ret (v:=.tuple #[numV 0 0 0,.int .i64 2]) (by simp [results,Tryz.results63,go_sem,numV,z0,z1,z2,z3,z4,z5,z6]) rfl ⟨?_,(by repeat (first | with_reducible exact HG1.out | with_reducible exact HG.out | with_reducible apply gr_alloc | with_reducible apply gr_drewN | with_reducible apply gr_drew | ((with_reducible refine gr_setN ?_ ?_ _ _);rotate_left;(first | omega | (simp;omega) | simp))))⟩
           rw [hne.out.1 v (by rw [←Hl.out];exact Hv.out),if_pos (.inr (by simpa using hv2))];rfl
          ·go_wp2_with fail
           refine bodyPost_ret (v:=.tuple #[numV 2 v 0,.int .i64 0]) (by simp [results,Tryz.results63,go_sem,numV,z0,z1,z2,z3,z4,z5,z6]) rfl ⟨?_,(by repeat (first | with_reducible exact HG1.out | with_reducible exact HG.out | with_reducible apply gr_alloc | with_reducible apply gr_drewN | with_reducible apply gr_drew | ((with_reducible refine gr_setN ?_ ?_ _ _);rotate_left;(first | omega | (simp;omega) | simp))))⟩
           rw [hne.out.1 v (by rw [←Hl.out];exact Hv.out),if_neg (by simp at hv1 hv2;omega)];rfl
        ·have HZ1:=Lib.hid ((hg1.block w.heap.size (Array.getElem?_eq_some_iff.1 HZ.out).1 (by simp)).trans HZ.out)
         clear z0 z1 z2 z3 z4 z5 z6 zf
         obtain ⟨z0,z1,z2,z3,z4,z5,z6,zf⟩:=zb_cells HZ1.out
         have HG1:=Lib.hid (gr_noneThen (show w.grownBy wr none from HG.out) hg1 (fun j hj=>by cases hj))
         have Hv:=Lib.hid hv;clear hv
         go_wp2_with fail
         refine bodyPost_ret (v:=.tuple #[numV 0 0 0,.int .i64 2]) (by simp [results,Tryz.results63,go_sem,numV,z0,z1,z2,z3,z4,z5,z6]) rfl ⟨?_,(by repeat (first | with_reducible exact HG1.out | with_reducible exact HG.out | with_reducible apply gr_alloc | with_reducible apply gr_drewN | with_reducible apply gr_drew | ((with_reducible refine gr_setN ?_ ?_ _ _);rotate_left;(first | omega | (simp;omega) | simp))))⟩
         rw [hne.out.2 (by rw [←Hl.out];exact Hv.out)];rfl
  | cons c3 l3 =>
   obtain ⟨hlt3,hc3,hd3,hr3,hr4⟩:=at_byte HS.out
   cases hdg:isDig (c3.toNat:Int)
   ·rcases Bool.eq_false_or_eq_true ((c3.toNat:Int) == 46) with hpt | hpt
    ·go_wp2_with (go_at_call 75;refine (digit_eq hdg _).mono ?_;rintro e w' ⟨rfl,hw'⟩;subst w')
     go_roundg l3.length
     case measure=>rw [Hg.out];simp
     case rel =>
      refine ⟨q ++ [c3],l3,d,p + 1,a,rfl,rfl,rfl,rfl,by rw [←List.append_assoc,←Hpq.out];simp,⟨by rw [←List.append_assoc,←Hpq.out,HS.out];simp,?_,HG.out,HZ.out,by omega,by omega,by omega,by simp;omega,by omega⟩⟩
      rw [←HF.out];simp [numScan,hdg,hpt]
    ·obtain ⟨z0,z1,z2,z3,z4,z5,z6,zf⟩:=zb_cells HZ.out
     go_wp2_with fail
     refine (digit_eq hdg _).mono ?_
     rintro e w' ⟨rfl,hw'⟩
     subst w'
     go_wp2_with fail
     refine bodyPost_ret (v:=.tuple #[numV 0 0 0,.int .i64 1]) (by simp [results,Tryz.results63,go_sem,numV,z0,z1,z2,z3,z4,z5,z6]) rfl ⟨?_,(by repeat (first | with_reducible exact HG1.out | with_reducible exact HG.out | with_reducible apply gr_alloc | with_reducible apply gr_drewN | with_reducible apply gr_drew | ((with_reducible refine gr_setN ?_ ?_ _ _);rotate_left;(first | omega | (simp;omega) | simp))))⟩
     have hN:numScan ((c::l2)) 0 0 0=none:=by rw [←HF.out];simp [numScan,hdg,hpt]
     rw [numF_none Hst.out hN];rfl
   ·rcases Bool.eq_false_or_eq_true (p == 0) with hp0 | hp0
    ·go_wp2_with (go_at_call 75;refine (digit_eq hdg _).mono ?_;rintro e w' ⟨rfl,hw'⟩;subst w')
     go_roundg l3.length
     case measure=>rw [Hg.out];simp
     case rel =>
      refine ⟨q ++ [c3],l3,d + 1,p,a + 1,rfl,rfl,rfl,rfl,by rw [←List.append_assoc,←Hpq.out];simp,⟨by rw [←List.append_assoc,←Hpq.out,HS.out];simp,?_,HG.out,HZ.out,by omega,by omega,by omega,by simp;omega,by omega⟩⟩
      simp only [beq_iff_eq] at hp0;rw [←HF.out];simp [numScan,hdg,hp0]
    ·go_wp2_with (go_at_call 75;refine (digit_eq hdg _).mono ?_;rintro e w' ⟨rfl,hw'⟩;subst w')
     go_roundg l3.length
     case measure=>rw [Hg.out];simp
     case rel =>
      refine ⟨q ++ [c3],l3,d + 1,p,a,rfl,rfl,rfl,rfl,by rw [←List.append_assoc,←Hpq.out];simp,⟨by rw [←List.append_assoc,←Hpq.out,HS.out];simp,?_,HG.out,HZ.out,by omega,by omega,by omega,by simp;omega,by omega⟩⟩
      simp only [beq_eq_false_iff_ne] at hp0;rw [←HF.out];simp [numScan,hdg,hp0]
end Go.Proofs.YtfkecmlmnhbmoaaGreatDoor
namespace Go.Proofs.YtfkecmlmnhbmoaaGreatDoor
open Go Go.RowKit
theorem number_any (pf:By→Nat) (W0 w:World) (hI:Init W0) (hpf:PFC pf W0) (hE:Env W0 w) (s:ByteArray) (l:By) (hl:s.data.toList=l) (hs:s.size≤140737488351240) :
  Calls Tryz.prog 63 #[.string s] w fun e w'=>e=numRet (numF pf l)∧w.grownBy w' none:=by
 have hsz:s.size=l.length:=by have:=congrArg List.length hl;simpa using this
 cases l with
 | nil=>exact number_nil pf W0 w (Lib.hid hI) (Lib.hid hpf) (Lib.hid hE) s (Lib.hid hl) (Lib.hid hsz) (Lib.hid rfl) hs
 | cons c l =>
  rcases Bool.eq_false_or_eq_true ((c.toNat:Int) == 43) with h1 | h1
  ·exact number_plus pf W0 w (Lib.hid hI) (Lib.hid hpf) (Lib.hid hE) s c l (Lib.hid hl) (Lib.hid hsz) h1 (Lib.hid (by simp [numStrip,h1])) hs
  ·rcases Bool.eq_false_or_eq_true ((c.toNat:Int) == 45) with h2 | h2
   ·exact number_minus pf W0 w (Lib.hid hI) (Lib.hid hpf) (Lib.hid hE) s c l (Lib.hid hl) (Lib.hid hsz) h1 h2 (Lib.hid (by simp [numStrip,h1,h2])) hs
   ·exact number_else pf W0 w (Lib.hid hI) (Lib.hid hpf) (Lib.hid hE) s c l (Lib.hid hl) (Lib.hid hsz) h1 h2 (Lib.hid (by simp [numStrip,h1,h2])) hs
end Go.Proofs.YtfkecmlmnhbmoaaGreatDoor
namespace Go.Proofs.YtfkecmlmnhbmoaaGreatDoor
open Go Go.RowKit
theorem keep {w w':World} {r:Option Nat} {k:Nat} {o:Obj} (hg:w.grownBy w' r) (h:w.heap[k]?=some o) (hk:some k≠r):w'.heap[k]?=some o :=
 (hg.block k (Array.getElem?_eq_some_iff.1 h).1 hk).trans h
def pvKind:PV→Int
 | .null=>0 | .bool _=>1 | .int _=>2 | .real _=>3 | .str _=>4 | .name _=>5 | .arr _=>6 | .dict _ _=>7 | .ref _ _=>8
def pvInt:PV→Int
 | .bool n=>n | .int n=>n | .ref n _=>n | _=>0
def pvGen:PV→Int
 | .ref _ g=>g | _=>0
def pvReal:PV→Nat
 | .real x=>x | _=>0
def pvText:PV→By
 | .str l=>l | .name l=>l | _=>[]
def valOf (x:PV) (ks vs:Value):Value:=.agg #[.int .i64 (pvKind x),.int .i64 (pvInt x),.int .i64 (pvGen x),.float .f64 (pvReal x),.string ⟨(pvText x).toArray⟩,ks,vs]
def nilS:Value:=.slice none 0 0
def RefPost (w w':World) (b:Nat) (s:ByteArray) (deep:Int) (ends:Bool) (e:Ending):Rd PV→Prop
 | some (x,r,o)=>e=.returned (valOf x nilS nilS)∧(∃ p',RdAt w' b s p' r 0 deep o ends)∧w.grownBy w' (some b)
 | none=>e=.returned zeroV∧(∃ p' l' o',RdAt w' b s p' l' 2 deep o' ends)∧w.grownBy w' (some b)
theorem cells7 {w:World} {b:Nat} {a0 a1 a2 a3 a4 a5 a6:Value} {e:TypeId} (h:w.heap[b]?=some (.cells #[a0,a1,a2,a3,a4,a5,a6] e (0,0))):w.cell? ⟨b,0,none⟩=some a0∧w.cell? ⟨b,1,none⟩=some a1∧w.cell? ⟨b,2,none⟩=some a2∧w.cell? ⟨b,3,none⟩=some a3 ∧
  w.cell? ⟨b,4,none⟩=some a4∧w.cell? ⟨b,5,none⟩=some a5∧w.cell? ⟨b,6,none⟩=some a6∧(∀ i,w.frozen? ⟨b,i,none⟩=false):=by
 simp [World.cell?,World.frozen?,h]
theorem alloc3 (w:World) (o1 o2 o3:Obj):(((w.alloc o1).alloc o2).alloc o3).heap[w.heap.size]?=some o1∧(((w.alloc o1).alloc o2).alloc o3).heap[w.heap.size + 1]?=some o2∧(((w.alloc o1).alloc o2).alloc o3).heap[w.heap.size + 1 + 1]?=some o3∧(((w.alloc o1).alloc o2).alloc o3).heap.size=w.heap.size + 1 + 1 + 1 ∧
  w.grownBy (((w.alloc o1).alloc o2).alloc o3) none:=by
 have s1:(w.alloc o1).heap.size=w.heap.size + 1:=by simp
 have s2:((w.alloc o1).alloc o2).heap.size=w.heap.size + 1 + 1:=by simp
 refine ⟨?_,?_,?_,by simp,gr_alloc (gr_alloc (gr_alloc (World.grownBy.refl _ _) _) _) _⟩
 ·rw [Below.heap_alloc _ _ _ (by omega),Below.heap_alloc _ _ _ (by omega)];exact heap_alloc_new w o1
 ·rw [Below.heap_alloc _ _ _ (by omega),←s1];exact heap_alloc_new _ o2
 ·rw [←s2];exact heap_alloc_new _ o3
def NB (n:Int):Obj:=.cells #[.int .i64 2,.int .i64 n,.int .i64 0,.float .f64 0,.string ⟨#[]⟩,.slice none 0 0,.slice none 0 0] 30 (0,0)
structure RefI (w wi:World) (b:Nat) (s:ByteArray) (p l:By) (deep:Int) (odd ends:Bool) (n:Int) (p2 l2:By) (o2:Bool):Prop where
 hG:w.grownBy wi (some b)
 hR:RdAt wi b s p l 0 deep odd ends
 hA:RdAt wi (w.heap.size + 1 + 1) s p2 l2 0 deep o2 ends
 hV:wi.heap[w.heap.size]?=some (NB n)
 hZ:wi.heap[w.heap.size + 1]?=some (.cells #[.int .i64 0,.int .i64 0,.int .i64 0,.float .f64 0,.string ⟨#[]⟩,.slice none 0 0,.slice none 0 0] 30 (0,0))
 hb:b < w.heap.size
theorem RefI.call {w wi:World} {b:Nat} {s:ByteArray} {p l:By} {deep:Int} {odd ends:Bool} {n:Int} {p2 l2:By} {o2:Bool} (h:RefI w wi b s p l deep odd ends n p2 l2 o2) {w':World} {p3 l3:By} {o3:Bool}
  (hg:wi.grownBy w' (some (w.heap.size + 1 + 1))) (hA:RdAt w' (w.heap.size + 1 + 1) s p3 l3 0 deep o3 ends):RefI w w' b s p l deep odd ends n p3 l3 o3:=by
 have:=h.hb
 exact ⟨gr_then h.hG hg (fun j hj=>by injection hj with hj;omega),h.hR.grown hg (by simp;omega),hA,keep hg h.hV (by simp;omega),keep hg h.hZ (by simp),h.hb⟩
theorem RefI.call0 {w wi:World} {b:Nat} {s:ByteArray} {p l:By} {deep:Int} {odd ends:Bool} {n:Int} {p2 l2:By} {o2:Bool} (h:RefI w wi b s p l deep odd ends n p2 l2 o2) {w':World}
  (hg:wi.grownBy w' none):RefI w w' b s p l deep odd ends n p2 l2 o2 :=
 ⟨gr_then h.hG hg (fun j hj=>by cases hj),h.hR.grown hg (by simp),h.hA.grown hg (by simp),keep hg h.hV (by simp),keep hg h.hZ (by simp),h.hb⟩
theorem RefI.odd {w wi:World} {b:Nat} {s:ByteArray} {p l:By} {deep:Int} {odd ends:Bool} {n:Int} {p2 l2:By} {o2:Bool} (h:RefI w wi b s p l deep odd ends n p2 l2 o2) (o:Bool) :
  RefI w (wi.setCell ⟨b,4,none⟩ (.bool o)) b s p l deep o ends n p2 l2 o2:=by
 have hb:=h.hb
 have hg:wi.grownBy (wi.setCell ⟨b,4,none⟩ (.bool o)) (some b):=gr_set (World.grownBy.refl _ _) _ _
 exact ⟨gr_same h.hG hg,h.hR.set4 o,h.hA.grown hg (by simp;omega),keep hg h.hV (by simp;omega),keep hg h.hZ (by simp;omega),h.hb⟩
theorem RdAt.setO {w:World} {b:Nat} {s:ByteArray} {p l:By} {bad deep:Int} {odd ends:Bool} (h:RdAt w b s p l bad deep odd ends) {b':Nat} (hb:b≠b') (i:Nat) (v:Value):RdAt (w.setCell ⟨b',i,Option.none⟩ v) b s p l bad deep odd ends :=
 h.grown (gr_set (World.grownBy.refl w (some b')) i v) (by simp;omega)
theorem gr_setM {w wr:World} {r:Option Nat} {b:Nat} (h:w.grownBy wr r) (hb:w.heap.size≤b) (i:Nat) (v:Value):w.grownBy (wr.setCell ⟨b,i,none⟩ v) r :=
 ⟨h.os,h.tape,h.output,by simpa using h.size,fun k hk hkb=>(Below.heap_setCell _ _ _ _ (by simp;omega)).trans (h.block k hk hkb)⟩
def NG (gk gn:Int) (gx:Nat):Obj:=.cells #[.int .i64 gk,.int .i64 gn,.int .i64 0,.float .f64 gx,.string ⟨#[]⟩,.slice none 0 0,.slice none 0 0] 30 (0,0)
theorem ref_1 {pf:By→Nat} {l la lc:By} {odd oa oc O:Bool} {gk gn st n:Int} {gx:Nat} {tl W:By} (h1:passM false l odd=(la,oa)) (hN:numF pf (wordT la)=(gk,gn,gx,st)) (hst:(st == 1)=false) (h5:passM false (wordR la) (wordO la oa)=(lc,oc)) (hW:wordT lc=W) (hO:wordO lc oc=O)
  (hc:W≠[82]∨st≠0∨gk≠2∨headIs (wordT la) isDig=false∨headIs tl isDig=false):refF pf n tl l odd=some (.int n,l,(odd || O) || headIs W (· == 82)):=by
 simp only [refF,h1,hN,hst,h5,hW,hO]
 rw [if_neg (by decide),if_pos hc]
theorem ref_2 {pf:By→Nat} {l la lc:By} {odd oa oc O:Bool} {gn n:Int} {gx:Nat} {tl:By} {c:UInt8} {W:By} (h1:passM false l odd=(la,oa)) (hN:numF pf (wordT la)=(2,gn,gx,0)) (h5:passM false (wordR la) (wordO la oa)=(lc,oc)) (hW:wordT lc=c::W) (hO:wordO lc oc=O)
  (hw:c::W=[82]) (hs:headIs (wordT la) isDig=true) (ht:headIs tl isDig=true) (hc:(n == 0)=true∨65535 < gn):refF pf n tl l odd=none:=by
 simp only [refF,h1,hN,h5,hW,hO,hw,hs,ht]
 rw [if_neg (by decide),if_neg (by simp),if_pos hc]
theorem ref_3 {pf:By→Nat} {l la lc:By} {odd oa oc O:Bool} {gn n:Int} {gx:Nat} {tl:By} {c:UInt8} {W:By} (h1:passM false l odd=(la,oa)) (hN:numF pf (wordT la)=(2,gn,gx,0)) (h5:passM false (wordR la) (wordO la oa)=(lc,oc)) (hW:wordT lc=c::W) (hO:wordO lc oc=O)
  (hw:c::W=[82]) (hs:headIs (wordT la) isDig=true) (ht:headIs tl isDig=true) (hn:(n == 0)=false) (hg:¬65535 < gn):refF pf n tl l odd=some (.ref n gn,wordR lc,O || hasPct (l.take (l.length - (wordR lc).length))):=by
 simp only [refF,h1,hN,h5,hW,hO,hw,hs,ht]
 rw [if_neg (by decide),if_neg (by simp),if_neg (by simp [hn,hg])]
theorem RefI.oddA {w wi:World} {b:Nat} {s:ByteArray} {p l:By} {deep:Int} {odd ends:Bool} {n:Int} {p2 l2:By} {o2:Bool} (h:RefI w wi b s p l deep odd ends n p2 l2 o2) (o:Bool) :
  RefI w (wi.setCell ⟨w.heap.size + 1 + 1,4,none⟩ (.bool o)) b s p l deep odd ends n p2 l2 o :=
 h.call (gr_set (World.grownBy.refl _ _) _ _) (h.hA.set4 o)
theorem RdAt.jump {w:World} {b:Nat} {s:ByteArray} {p l:By} {bad deep:Int} {odd ends:Bool} (h:RdAt w b s p l bad deep odd ends) {P2 r:By} (hs:s.data.toList=P2 ++ r):RdAt (w.setCell ⟨b,1,Option.none⟩ (.int .i64 P2.length)) b s P2 r bad deep odd ends:=by
 refine ⟨hs,?_⟩
 simp [World.setCell,Array.getElem?_modify,h.2]
end Go.Proofs.YtfkecmlmnhbmoaaGreatDoor
