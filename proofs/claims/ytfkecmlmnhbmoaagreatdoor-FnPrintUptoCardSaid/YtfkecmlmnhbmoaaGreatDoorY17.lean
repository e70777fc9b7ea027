/- The texts B6 of the workbench, laid together. -/
import Derived.Test.YtfkecmlmnhbmoaaGreatDoorProg
import Derived.WalkKit
import Derived.WalkLawsBesides
import Derived.WalkSpells
import Derived.BigQuiet
import Derived.BigRegion
import Derived.Deep.QuietTactic
import Derived.Deep.RegionHeld3
import Derived.Deep.LoopGhost
import Derived.StillTailTactics
import Derived.Lib.Hide
import Derived.Laws.EntriesVeiled
import Derived.Test.YtfkecmlmnhbmoaaGreatDoorY16
set_option linter.unusedVariables false
set_option linter.unusedSimpArgs false
namespace Go.Proofs.YtfkecmlmnhbmoaaGreatDoor
open Go Go.RowKit
theorem rdArr_some {f:By→Bool→Rd PV} {m:Nat} {l la:By} {o oa:Bool} {acc:List PV} {x:PV} {r:By} {o2:Bool} (h1:passM false l o=(la,oa)) (h2:headIs la (· == 93)=false) (h3:f la oa=some (x,r,o2)) :
  rdArr f (m + 1) l o acc=rdArr f m r o2 (acc ++ [x]):=by
 simp only [rdArr,h1,h2,h3];rfl
theorem rdArr_none {f:By→Bool→Rd PV} {m:Nat} {l la:By} {o oa:Bool} {acc:List PV} (h1:passM false l o=(la,oa)) (h2:headIs la (· == 93)=false) (h3:f la oa=none) :
  rdArr f m l o acc=none:=by
 cases m with
 | zero=>rfl
 | succ m=>simp only [rdArr,h1,h2,h3];rfl
set_option maxRecDepth 100000 in
set_option maxHeartbeats 40000000 in
theorem arr_any (pf:By→Nat) (W0 w:World) (hE:Env W0 w) (b:Nat) (s:ByteArray) (p l:By) (c0':UInt8) (n:Nat) (hn:n≤50) (hV:ValC pf W0 n) (odd ends:Bool) (hR:RdAt w b s p (c0'::l) 0 (50 - n) odd ends) (hs:s.size≤1000000000)
  (hW0:W0.heap.size≤b) :
  Calls Tryz.prog 51 #[.pointer (some ⟨b,0,none⟩)] w fun e w'=>VPost w w' b s (50 - n) ends e ((rdArr (rdV pf n) l.length l odd []).map fun r=>(.arr r.1,r.2)):=by
 have HR:=Lib.hid hR
 have hbB:=hR.lt
 have hsz:=hR.size
 obtain ⟨c0,c1,c2,c3,c4,c5,cf⟩:=hR.cells
 obtain ⟨ti,hti,htz0,htz1,htz2⟩:=info_parts Tryz.info30
 have HE:=Lib.hid hE;clear hE
 have HV:=Lib.hid hV;clear hV
 clear hR
 obtain ⟨deep,hdeep⟩:∃ deep:Int,deep=50 - n:=⟨_,rfl⟩
 rw [←hdeep] at HR c3 ⊢
 have Hdeep:=Lib.hid hdeep;clear hdeep
 generalize hRR:rdArr (rdV pf n) l.length l odd []=R
 have HRR:=Lib.hid hRR;clear hRR
 have hp1:p.length + 1≤s.size:=by simp at hsz;omega
 have Hsz:=Lib.hid hsz
 clear hsz
 go_enter Tryz.func51,Tryz.ntmps51
 go_wp2_with fail
 go_loopg [] (l.length + 1) (fun g wr=>ArrI w wr b s deep ends (rdV pf n) R g)
 case atStart =>
  refine .inl ⟨none,0,0,p ++ [c0'],l,odd,l.length,[],fun _=>False,[],⟨⟨(by repeat (first | with_reducible exact World.grownBy.refl w (some b) | with_reducible apply gr_alloc | with_reducible apply gr_drewN | with_reducible apply gr_drew | with_reducible apply gr_set | ((with_reducible refine gr_setM ?_ ?_ _ _);rotate_left;(first | omega | (simp;omega))))),?_,World.ownsRow_nil _ _ _ _,World.ownsRow_nil _ _ _ _,by simp only [IsVs],fun k hk=>hk.elim,(fun k hk=>by cases hk),hbB⟩,?_⟩,rfl,Nat.le_refl _,?_,HRR.out,?_⟩
  ·exact (alloc2 (w.setCell ⟨b,1,none⟩ (.int .i64 (p.length + 1))) w.heap.size (by simp) _ _).1
  ·exact (alloc2 (w.setCell ⟨b,1,none⟩ (.int .i64 (p.length + 1))) w.heap.size (by simp) _ _).2
  ·have:=Hsz.out;simp at this ⊢;omega
  ·exact (HR.out.set1.alloc _).alloc _
 case round =>
  clear HR c0 c1 c2 c3 c4 c5 cf
  rcases hrel with ⟨so,sn,sc,p',l',o',m,acc,S,cells,hAG,hg,hm,hacc,hF,hR⟩ | ⟨hRn,hg,hG,hZ,⟨so,sn,sc,hA⟩,p',l',o',bad,en',hbad,hR⟩
  ·obtain ⟨c0,c1,c2,c3,c4,c5,cf⟩:=hR.cells
   have HR:=Lib.hid hR;clear hR
   have HAG:=Lib.hid hAG;clear hAG
   have Hg:=Lib.hid hg;clear hg
   have Hm:=Lib.hid hm;clear hm
   have Hacc:=Lib.hid hacc;clear hacc
   have HF:=Lib.hid hF;clear hF
   go_wp2_with fail
   refine (pass_any _ b s p' l' 0 deep o' ends (by exact HR.out) (by omega)).mono ?_
   rintro e w1 ⟨rfl,⟨p1,hR1⟩,hg1⟩
   have HAG1:=Lib.hid (HAG.out.step hg1)
   have hlp:=passM_len false l' o'
   clear hg1 c0 c1 c2 c3 c4 c5 cf HR HAG
   generalize hPM:passM false l' o'=a at hR1 hlp
   obtain ⟨la,oa⟩:=a
   simp only at hR1 hlp
   have HR1:=Lib.hid hR1
   have Hlp:=Lib.hid hlp;clear hlp
   go_wp2_with fail
   refine (is_any _ b s p1 la 0 deep oa ends (by exact HR1.out) (by omega) ⟨#[93]⟩ (by decide)).mono ?_
   rintro e w2 ⟨rfl,n2,hw2⟩
   have HAG2:=Lib.hid (HAG1.out.step (w':=w2) (by rw [hw2];exact gr_drewN (World.grownBy.refl _ _) _))
   have HR2:=Lib.hid (show RdAt w2 b s p1 la 0 deep oa ends by rw [hw2];exact HR1.out)
   clear HAG1 HR1 hw2 hR1
   obtain ⟨c0,c1,c2,c3,c4,c5,cf⟩:=HR2.out.cells
   obtain ⟨z0,z1,z2,z3,z4,z5,z6,zf⟩:=zb_cells HAG2.out.hZ
   obtain ⟨v0,v1,v2,v3,v4,v5,v6,vf⟩:=cells7 HAG2.out.hA
   have hb2:w.heap.size + 1 < w2.heap.size:=(Array.getElem?_eq_some_iff.1 HAG2.out.hA).1
   have hb1:w.heap.size < w2.heap.size:=by omega
   have hpre:(⟨#[93]⟩:ByteArray).data.toList.isPrefixOf la=headIs la (· == 93):=pre1 93 la
   rw [hpre]
   have hn1:¬w.heap.size=b:=by omega
   have hn2:¬w.heap.size + 1=b:=by omega
   have hk1:p1.length + la.length=s.size:=by have:=HR2.out.size;omega
   rcases Bool.eq_false_or_eq_true (headIs la (· == 93)) with hh | hh
   ·rw [hh]
    obtain ⟨c,l2,hla⟩:∃ c l2,la=c::l2:=by cases la with | nil=>simp [headIs] at hh | cons c l2=>exact ⟨c,l2,rfl⟩
    have hres:R=some (acc,l2,oa):=by
     rw [←HF.out]
     have hm1:=Hm.out
     have:=Hlp.out
     rw [hla] at this
     simp only [List.length_cons] at this
     obtain ⟨m',rfl⟩:∃ m',m=m' + 1:=⟨m - 1,by omega⟩
     simp only [rdArr,hPM,hh,if_true]
     rw [hla];rfl
    subst hla
    have Hres:=Lib.hid hres;clear hres
    have HPM:=Lib.hid hPM;clear hPM
    have hk2:p1.length + 1≤s.size:=by simp at hk1;omega
    clear hk1
    go_wp2_with fail
    refine bodyPost_ret (v:=valOf (.arr acc) nilS (.slice so sn sc)) (by simp [results,Tryz.results51,go_sem,valOf,nilS,pvKind,pvInt,pvGen,pvReal,pvText,z0,z1,z2,z3,z4,z5,z6,hn1,hn2]) rfl ?_
    rw [Hres.out]
    refine ⟨nilS,.slice so sn sc,fun k=>S k∨(Value.slice so sn sc).ownBlock=some k,rfl,?_,?_,⟨p1 ++ [c],(by repeat (first | with_reducible exact HR2.out.set1 | with_reducible apply RdAt.alloc | with_reducible apply RdAt.set4 | ((with_reducible refine RdAt.setO ?_ ?_ _ _);rotate_left;(first | omega | (simp;omega)))))⟩,(by repeat (first | with_reducible exact HAG2.out.hG | with_reducible apply gr_alloc | with_reducible apply gr_drewN | with_reducible apply gr_drew | with_reducible apply gr_set | ((with_reducible refine gr_setM ?_ ?_ _ _);rotate_left;(first | omega | (simp;omega)))))⟩
    ·have hV2:IsV (fun k=>S k∨(Value.slice so sn sc).ownBlock=some k) w2 (.arr acc) nilS (.slice so sn sc):=HAG2.out.isV
     refine IsV.keep (fun k hk=>⟨hk,?_⟩) _ _ _ hV2
     have hk2:=HAG2.out.bound k hk
     have:=HAG2.out.hb
     repeat rw [Below.heap_setCell _ _ _ _ (by first | omega | (simp;omega))]
    ·intro k hk
     have hk2:=HAG2.out.bound k hk
     simp
     omega
   ·rw [hh]
    have Hk1:=Lib.hid hk1
    have Hh:=Lib.hid hh;clear hh
    have HPM:=Lib.hid hPM;clear hPM
    clear hk1
    cases ends
    ·go_wp2_with fail
     (refine wp_region_quiet_tail 18 (by kernel_rfl) (by kernel_rfl) ?_;simp only [List.take_succ_cons,List.take_zero,List.drop_succ_cons,List.drop_zero];(repeat (go_big_quiet_step ((first|(go_at_call 42;with_reducible first|exact qaw _|exact qbw _)|(go_at_call 43;with_reducible first|exact qap _|exact qbp _)|(go_at_call 52;with_reducible first|exact qad _|exact qbd _)|(go_at_call 76;with_reducible first|exact qar _|exact qbr _)|(go_at_call 75;with_reducible first|exact qag _|exact qbg _)))));refine wpQuiet_nil ?_;intro _ hwt;obtain ⟨nt,hwt'⟩:=hwt;subst hwt';go_wp2_with fail)
     have HAG3:=Lib.hid (HAG2.out.step (gr_set (gr_drewN (World.grownBy.refl w2 (some b)) nt) 5 (.bool (decide (s.size≤p1.length)))))
     have HR3:=Lib.hid ((HR2.out.drewN nt).set5 (decide (s.size≤p1.length)))
     obtain ⟨w3,hw3⟩:∃ w3,w3=(w2.drewN nt).setCell ⟨b,5,none⟩ (.bool (decide (s.size≤p1.length))):=⟨_,rfl⟩
     rw [←hw3] at HAG3 HR3 ⊢
     clear hw3 HAG2 HR2 c0 c1 c2 c3 c4 c5 cf z0 z1 z2 z3 z4 z5 z6 zf v0 v1 v2 v3 v4 v5 v6 vf hb1 hb2
     obtain ⟨v0,v1,v2,v3,v4,v5,v6,vf⟩:=cells7 HAG3.out.hA
     have hacc2:acc.length + 1≤1000000001:=by have:=Hacc.out;omega
     have hrow:∀ k,(Value.slice so sn sc).ownBlock=some k→w.heap.size + 2≤k∧k < w3.heap.size:=World.ownsRow.lt HAG3.out.hO
     have Hrow:=Lib.hid hrow
     clear hrow
     cases hrv:rdV pf n la oa with
     | none =>
      have Hrv:=Lib.hid hrv;clear hrv
      go_region_law
       (first
        | (go_simp;go_at_call 28;refine (HV.out _ b s p1 la oa (decide (s.size≤p1.length)) (by exact HE.out.grown (gr_drew HAG3.out.hG) (fun k hk=>by injection hk with hk;omega)) hW0 hs (by rw [←Hdeep.out];exact HR3.out) hn).mono ?_;intro e w4 hP;rw [Hrv.out] at hP;obtain ⟨vv,rfl,⟨xk,xn,xg,xx,xt,ko,kn,kc,vo,vn,vc,rfl⟩,⟨p4,l4,o4,bad4,en4,hbad4,hR4⟩,hg4⟩:=hP;have HAG4:=Lib.hid (HAG3.out.step (gr_same (gr_drew (World.grownBy.refl w3 (some b))) hg4));have hA4:=(cells7 HAG4.out.hA).2.2.2.2.2.2.1;have hb4:w.heap.size + 1 < w4.heap.size:=(Array.getElem?_eq_some_iff.1 HAG4.out.hA).1;have HR4:=Lib.hid hR4;have Hg4:=Lib.hid hg4;have Hbad4:=Lib.hid hbad4;clear hR4 hg4 hbad4)
        | (refine step_append_lies _ (by rfl) _ _ _ (by rfl) (w.heap.size + 2) 30 ti _ 7 96 Tryz.underlying28 hti htz0 htz1 htz2 rfl (by omega) (.slice so sn sc) acc.length cells (by rfl) (World.ownsRow.alloc HAG4.out.hO _) ⟨w4.heap.size,0,none⟩ 1 1 [.int .i64 xk,.int .i64 xn,.int .i64 xg,.float .f64 xx,.string xt,.slice ko kn kc,.slice vo vn vc] (by rfl) (by rfl) (World.news_of_block (heap_alloc_new w4 _)) (by simp [Value.oneCell']) (by omega) (by unfold maxLen;omega) (by omega) (by simp;omega) (w4.heap.size + 1) (by simp) ?_;intro gg cap w5 hown5 hgrow hat hlt;have hA5:=keep hgrow ((Below.heap_alloc _ _ _ hb4).trans HAG4.out.hA) (fun e=>by have:=(Hrow.out _ e.symm).1;omega);obtain ⟨y0,y1,y2,y3,y4,y5,y6,yf⟩:=cells7 hA5;have Hown5:=Lib.hid hown5;have Hgrow:=Lib.hid hgrow;have Hat:=Lib.hid hat;have hb5:w.heap.size + 1 < w5.heap.size:=(Array.getElem?_eq_some_iff.1 hA5).1;clear hown5 hgrow hat hA5))
      all_goals
       go_wp2_with fail
       go_roundg 0
       case measure=>rw [Hg.out];omega
       case rel =>
        have hR5:RdAt w5 b s p4 l4 bad4 deep o4 en4:=(((show RdAt w4 b s p4 l4 bad4 deep o4 en4 by rw [Hdeep.out];exact HR4.out).alloc _).grown Hgrow.out (fun e=>by have:=(Hrow.out _ e.symm).1;omega))
        obtain ⟨q1,q2,q3⟩:=HAG4.out.bad Hgrow.out (.slice (some ⟨gg,0,none⟩) (acc.length + 1) cap)
        exact .inr ⟨by rw [←HF.out];exact rdArr_none HPM.out Hh.out Hrv.out,rfl,q1,q2,⟨_,_,_,q3⟩,p4,l4,o4,bad4,en4,Hbad4.out,hR5.setO (by omega) _ _⟩
     | some q =>
      obtain ⟨x,r,o2⟩:=q
      have Hrv:=Lib.hid hrv;clear hrv
      go_region_law
       (first
        | (go_simp;go_at_call 28;refine (HV.out _ b s p1 la oa (decide (s.size≤p1.length)) (by exact HE.out.grown (gr_drew HAG3.out.hG) (fun k hk=>by injection hk with hk;omega)) hW0 hs (by rw [←Hdeep.out];exact HR3.out) hn).mono ?_;intro e w4 hP;rw [Hrv.out] at hP;obtain ⟨ks2,vs2,S2,rfl,hV4,hS4,⟨p4,hR4⟩,hg4⟩:=hP;obtain ⟨⟨ko,kn,kc,hks⟩,⟨vo,vn,vc,hvs⟩⟩:=IsV.slices hV4;subst hks;subst hvs;have HAG4:=Lib.hid (HAG3.out.step (gr_same (gr_drew (World.grownBy.refl w3 (some b))) hg4));have hA4:=(cells7 HAG4.out.hA).2.2.2.2.2.2.1;have hb4:w.heap.size + 1 < w4.heap.size:=(Array.getElem?_eq_some_iff.1 HAG4.out.hA).1;have HV4:=Lib.hid hV4;have HS4:=Lib.hid hS4;have HR4:=Lib.hid hR4;have Hg4:=Lib.hid hg4;clear hV4 hS4 hR4 hg4;unfold valOf)
        | (refine step_append_lies _ (by rfl) _ _ _ (by rfl) (w.heap.size + 2) 30 ti _ 7 96 Tryz.underlying28 hti htz0 htz1 htz2 rfl (by omega) (.slice so sn sc) acc.length cells (by rfl) (World.ownsRow.alloc HAG4.out.hO _) ⟨w4.heap.size,0,none⟩ 1 1 (c7 x (.slice ko kn kc) (.slice vo vn vc)) (by rfl) (by rfl) (World.news_of_block (heap_alloc_new w4 _)) (by simp [Value.oneCell',c7]) (by omega) (by unfold maxLen;omega) (by omega) (by simp;omega) (w4.heap.size + 1) (by simp) ?_;intro gg cap w5 hown5 hgrow hat hlt;have hA5:=keep hgrow ((Below.heap_alloc _ _ _ hb4).trans HAG4.out.hA) (fun e=>by have:=(Hrow.out _ e.symm).1;omega);obtain ⟨y0,y1,y2,y3,y4,y5,y6,yf⟩:=cells7 hA5;have Hown5:=Lib.hid hown5;have Hgrow:=Lib.hid hgrow;have Hat:=Lib.hid hat;have hb5:w.heap.size + 1 < w5.heap.size:=(Array.getElem?_eq_some_iff.1 hA5).1;clear hown5 hgrow hat hA5))
      all_goals
       go_wp2_with fail
       go_roundg (r.length + 1)
       case measure=>rw [Hg.out];have:=rdV_len _ _ _ _ _ _ _ Hrv.out;have:=Hlp.out;omega
       case rel =>
        have hR5:RdAt w5 b s p4 r 0 deep o2 (decide (s.size≤p1.length)):=(((show RdAt w4 b s p4 r 0 deep o2 (decide (s.size≤p1.length)) by rw [Hdeep.out];exact HR4.out).alloc _).grown Hgrow.out (fun e=>by have:=(Hrow.out _ e.symm).1;omega))
        have hrl:=rdV_len _ _ _ _ _ _ _ Hrv.out
        have hEe:(decide (s.size≤p1.length))=false:=by first | rfl | (have:=Hk1.out;simp;omega)
        have hlp2:=Hlp.out
        have hm2:=Hm.out
        have hac2:=Hacc.out
        obtain ⟨m',rfl⟩:∃ m',m=m' + 1:=⟨m - 1,by omega⟩
        refine .inl ⟨_,_,_,p4,r,o2,m',acc ++ [x],_,_,HAG4.out.push (w3:=w3) (fun k hk=>(Hrow.out k hk).2) (fun k hk=>by cases hk) Hg4.out.size HV4.out HS4.out (by have:=HAG3.out.hA;have:=(Array.getElem?_eq_some_iff.1 this).1;omega) Hown5.out Hgrow.out (by rcases Hat.out with h | h;exact .inl h;exact .inr (by omega)),rfl,by omega,by simp;omega,?_,?_⟩
        ·rw [←HF.out];exact (rdArr_some HPM.out Hh.out Hrv.out).symm
        ·rw [←hEe];exact hR5.setO (by omega) _ _
    ·go_wp2_with fail
     (refine wp_region_quiet_tail 18 (by kernel_rfl) (by kernel_rfl) ?_;simp only [List.take_succ_cons,List.take_zero,List.drop_succ_cons,List.drop_zero];(repeat (go_big_quiet_step ((first|(go_at_call 42;with_reducible first|exact qaw _|exact qbw _)|(go_at_call 43;with_reducible first|exact qap _|exact qbp _)|(go_at_call 52;with_reducible first|exact qad _|exact qbd _)|(go_at_call 76;with_reducible first|exact qar _|exact qbr _)|(go_at_call 75;with_reducible first|exact qag _|exact qbg _)))));refine wpQuiet_nil ?_;intro _ hwt;obtain ⟨nt,hwt'⟩:=hwt;subst hwt';go_wp2_with fail)
     have HAG3:=Lib.hid (HAG2.out.step (gr_set (gr_drewN (World.grownBy.refl w2 (some b)) nt) 5 (.bool (true))))
     have HR3:=Lib.hid ((HR2.out.drewN nt).set5 (true))
     obtain ⟨w3,hw3⟩:∃ w3,w3=(w2.drewN nt).setCell ⟨b,5,none⟩ (.bool (true)):=⟨_,rfl⟩
     rw [←hw3] at HAG3 HR3 ⊢
     clear hw3 HAG2 HR2 c0 c1 c2 c3 c4 c5 cf z0 z1 z2 z3 z4 z5 z6 zf v0 v1 v2 v3 v4 v5 v6 vf hb1 hb2
     obtain ⟨v0,v1,v2,v3,v4,v5,v6,vf⟩:=cells7 HAG3.out.hA
     have hacc2:acc.length + 1≤1000000001:=by have:=Hacc.out;omega
     have hrow:∀ k,(Value.slice so sn sc).ownBlock=some k→w.heap.size + 2≤k∧k < w3.heap.size:=World.ownsRow.lt HAG3.out.hO
     have Hrow:=Lib.hid hrow
     clear hrow
     cases hrv:rdV pf n la oa with
     | none =>
      have Hrv:=Lib.hid hrv;clear hrv
      go_region_law
       (first
        | (go_simp;go_at_call 28;refine (HV.out _ b s p1 la oa (true) (by exact HE.out.grown (gr_drew HAG3.out.hG) (fun k hk=>by injection hk with hk;omega)) hW0 hs (by rw [←Hdeep.out];exact HR3.out) hn).mono ?_;intro e w4 hP;rw [Hrv.out] at hP;obtain ⟨vv,rfl,⟨xk,xn,xg,xx,xt,ko,kn,kc,vo,vn,vc,rfl⟩,⟨p4,l4,o4,bad4,en4,hbad4,hR4⟩,hg4⟩:=hP;have HAG4:=Lib.hid (HAG3.out.step (gr_same (gr_drew (World.grownBy.refl w3 (some b))) hg4));have hA4:=(cells7 HAG4.out.hA).2.2.2.2.2.2.1;have hb4:w.heap.size + 1 < w4.heap.size:=(Array.getElem?_eq_some_iff.1 HAG4.out.hA).1;have HR4:=Lib.hid hR4;have Hg4:=Lib.hid hg4;have Hbad4:=Lib.hid hbad4;clear hR4 hg4 hbad4)
        | (refine step_append_lies _ (by rfl) _ _ _ (by rfl) (w.heap.size + 2) 30 ti _ 7 96 Tryz.underlying28 hti htz0 htz1 htz2 rfl (by omega) (.slice so sn sc) acc.length cells (by rfl) (World.ownsRow.alloc HAG4.out.hO _) ⟨w4.heap.size,0,none⟩ 1 1 [.int .i64 xk,.int .i64 xn,.int .i64 xg,.float .f64 xx,.string xt,.slice ko kn kc,.slice vo vn vc] (by rfl) (by rfl) (World.news_of_block (heap_alloc_new w4 _)) (by simp [Value.oneCell']) (by omega) (by unfold maxLen;omega) (by omega) (by simp;omega) (w4.heap.size + 1) (by simp) ?_;intro gg cap w5 hown5 hgrow hat hlt;have hA5:=keep hgrow ((Below.heap_alloc _ _ _ hb4).trans HAG4.out.hA) (fun e=>by have:=(Hrow.out _ e.symm).1;omega);obtain ⟨y0,y1,y2,y3,y4,y5,y6,yf⟩:=cells7 hA5;have Hown5:=Lib.hid hown5;have Hgrow:=Lib.hid hgrow;have Hat:=Lib.hid hat;have hb5:w.heap.size + 1 < w5.heap.size:=(Array.getElem?_eq_some_iff.1 hA5).1;clear hown5 hgrow hat hA5))
      all_goals
       go_wp2_with fail
       go_roundg 0
       case measure=>rw [Hg.out];omega
       case rel =>
        have hR5:RdAt w5 b s p4 l4 bad4 deep o4 en4:=(((show RdAt w4 b s p4 l4 bad4 deep o4 en4 by rw [Hdeep.out];exact HR4.out).alloc _).grown Hgrow.out (fun e=>by have:=(Hrow.out _ e.symm).1;omega))
        obtain ⟨q1,q2,q3⟩:=HAG4.out.bad Hgrow.out (.slice (some ⟨gg,0,none⟩) (acc.length + 1) cap)
        exact .inr ⟨by rw [←HF.out];exact rdArr_none HPM.out Hh.out Hrv.out,rfl,q1,q2,⟨_,_,_,q3⟩,p4,l4,o4,bad4,en4,Hbad4.out,hR5.setO (by omega) _ _⟩
     | some q =>
      obtain ⟨x,r,o2⟩:=q
      have Hrv:=Lib.hid hrv;clear hrv
      go_region_law
       (first
        | (go_simp;go_at_call 28;refine (HV.out _ b s p1 la oa (true) (by exact HE.out.grown (gr_drew HAG3.out.hG) (fun k hk=>by injection hk with hk;omega)) hW0 hs (by rw [←Hdeep.out];exact HR3.out) hn).mono ?_;intro e w4 hP;rw [Hrv.out] at hP;obtain ⟨ks2,vs2,S2,rfl,hV4,hS4,⟨p4,hR4⟩,hg4⟩:=hP;obtain ⟨⟨ko,kn,kc,hks⟩,⟨vo,vn,vc,hvs⟩⟩:=IsV.slices hV4;subst hks;subst hvs;have HAG4:=Lib.hid (HAG3.out.step (gr_same (gr_drew (World.grownBy.refl w3 (some b))) hg4));have hA4:=(cells7 HAG4.out.hA).2.2.2.2.2.2.1;have hb4:w.heap.size + 1 < w4.heap.size:=(Array.getElem?_eq_some_iff.1 HAG4.out.hA).1;have HV4:=Lib.hid hV4;have HS4:=Lib.hid hS4;have HR4:=Lib.hid hR4;have Hg4:=Lib.hid hg4;clear hV4 hS4 hR4 hg4;unfold valOf)
        | (refine step_append_lies _ (by rfl) _ _ _ (by rfl) (w.heap.size + 2) 30 ti _ 7 96 Tryz.underlying28 hti htz0 htz1 htz2 rfl (by omega) (.slice so sn sc) acc.length cells (by rfl) (World.ownsRow.alloc HAG4.out.hO _) ⟨w4.heap.size,0,none⟩ 1 1 (c7 x (.slice ko kn kc) (.slice vo vn vc)) (by rfl) (by rfl) (World.news_of_block (heap_alloc_new w4 _)) (by simp [Value.oneCell',c7]) (by omega) (by unfold maxLen;omega) (by omega) (by simp;omega) (w4.heap.size + 1) (by simp) ?_;intro gg cap w5 hown5 hgrow hat hlt;have hA5:=keep hgrow ((Below.heap_alloc _ _ _ hb4).trans HAG4.out.hA) (fun e=>by have:=(Hrow.out _ e.symm).1;omega);obtain ⟨y0,y1,y2,y3,y4,y5,y6,yf⟩:=cells7 hA5;have Hown5:=Lib.hid hown5;have Hgrow:=Lib.hid hgrow;have Hat:=Lib.hid hat;have hb5:w.heap.size + 1 < w5.heap.size:=(Array.getElem?_eq_some_iff.1 hA5).1;clear hown5 hgrow hat hA5))
      all_goals
       go_wp2_with fail
       go_roundg (r.length + 1)
       case measure=>rw [Hg.out];have:=rdV_len _ _ _ _ _ _ _ Hrv.out;have:=Hlp.out;omega
       case rel =>
        have hR5:RdAt w5 b s p4 r 0 deep o2 (true):=(((show RdAt w4 b s p4 r 0 deep o2 (true) by rw [Hdeep.out];exact HR4.out).alloc _).grown Hgrow.out (fun e=>by have:=(Hrow.out _ e.symm).1;omega))
        have hrl:=rdV_len _ _ _ _ _ _ _ Hrv.out
        have hEe:(true)=true:=by first | rfl | (have:=Hk1.out;simp;omega)
        have hlp2:=Hlp.out
        have hm2:=Hm.out
        have hac2:=Hacc.out
        obtain ⟨m',rfl⟩:∃ m',m=m' + 1:=⟨m - 1,by omega⟩
        refine .inl ⟨_,_,_,p4,r,o2,m',acc ++ [x],_,_,HAG4.out.push (w3:=w3) (fun k hk=>(Hrow.out k hk).2) (fun k hk=>by cases hk) Hg4.out.size HV4.out HS4.out (by have:=HAG3.out.hA;have:=(Array.getElem?_eq_some_iff.1 this).1;omega) Hown5.out Hgrow.out (by rcases Hat.out with h | h;exact .inl h;exact .inr (by omega)),rfl,by omega,by simp;omega,?_,?_⟩
        ·rw [←HF.out];exact (rdArr_some HPM.out Hh.out Hrv.out).symm
        ·rw [←hEe];exact hR5.setO (by omega) _ _
  ·obtain ⟨c0,c1,c2,c3,c4,c5,cf⟩:=hR.cells
   have hb2:w.heap.size + 1 < wr.heap.size:=(Array.getElem?_eq_some_iff.1 hA).1
   have hb1:w.heap.size < wr.heap.size:=by omega
   have HG:=Lib.hid hG;clear hG
   have HZ:=Lib.hid hZ;clear hZ
   have HA:=Lib.hid hA;clear hA
   obtain ⟨z0,z1,z2,z3,z4,z5,z6,zf⟩:=zb_cells HZ.out
   obtain ⟨v0,v1,v2,v3,v4,v5,v6,vf⟩:=cells7 HA.out
   have hbd:(bad == 0)=false:=by simpa using hbad
   have HR:=Lib.hid hR;clear hR
   have HRn:=Lib.hid hRn;clear hRn
   go_wp2_with fail
   refine bodyPost_ret (v:=.agg #[.int .i64 6,.int .i64 0,.int .i64 0,.float .f64 0,.string ⟨#[]⟩,.slice none 0 0,.slice so sn sc]) (by simp [results,Tryz.results51,go_sem,z0,z1,z2,z3,z4,z5,z6]) rfl ?_
   rw [HRn.out]
   exact ⟨_,rfl,⟨_,_,_,_,_,_,_,_,_,_,_,rfl⟩,⟨p',l',o',bad,en',hbad,(by repeat (first | with_reducible exact HR.out | with_reducible apply RdAt.alloc | with_reducible apply RdAt.set4 | ((with_reducible refine RdAt.setO ?_ ?_ _ _);rotate_left;(first | omega | (simp;omega)))))⟩,(by repeat (first | with_reducible exact HG.out | with_reducible apply gr_alloc | with_reducible apply gr_drewN | with_reducible apply gr_drew | with_reducible apply gr_set | ((with_reducible refine gr_setM ?_ ?_ _ _);rotate_left;(first | omega | (simp;omega)))))⟩
end Go.Proofs.YtfkecmlmnhbmoaaGreatDoor
