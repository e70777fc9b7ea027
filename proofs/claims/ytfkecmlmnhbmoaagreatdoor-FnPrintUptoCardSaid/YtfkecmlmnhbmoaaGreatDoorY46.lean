/- The texts D2b Q12 D15 D16 of the workbench, laid together. -/
import Derived.Test.YtfkecmlmnhbmoaaGreatDoorProg
import Derived.WalkKit
import Derived.WalkLawsBesides
import Derived.WalkSpells
import Derived.BigQuiet
import Derived.BigRegion
import Derived.Deep.QuietTactic
import Derived.Deep.RegionHeld3
import Derived.Deep.LoopGhost
import Derived.StillTailTactics
import Derived.Lib.Hide
import Derived.Laws.EntriesVeiled
import Derived.Lib.ItoaLen
import Derived.Test.YtfkecmlmnhbmoaaGreatDoorY27
import Derived.Test.YtfkecmlmnhbmoaaGreatDoorY35
import Derived.Test.YtfkecmlmnhbmoaaGreatDoorY40
import Derived.Test.YtfkecmlmnhbmoaaGreatDoorY43
import Derived.Test.YtfkecmlmnhbmoaaGreatDoorY45
set_option linter.unusedVariables false
set_option linter.unusedSimpArgs false
namespace Go.Proofs.YtfkecmlmnhbmoaaGreatDoor
open Go Go.RowKit
open Go.Lib
theorem kids_build {H:Type} {W:World} {R:Nat} (P:DataW H→OB→Prop):∀ (L:List (DataW H)) (off:Nat),
  (∀ (i:Nat) d,L[i]?=some d→∃ (o:OB) (ks vs:Value),IsB (LtS W) W o ks vs∧wfB o∧bkB o≤Rows.uptoBulk d∧∀ (j:Nat) u,(b7 o ks vs)[j]?=some u→W.cell? ⟨R,off + i * 7 + j,none⟩=some u) →
  ∃ (os:List OB) (cells:List Value),os.length=L.length∧cells.length=os.length * 7∧IsBs (LtS W) W os cells∧wfBs os∧bkBs os≤Rows.uptoBulkAll L∧∀ (j:Nat) u,cells[j]?=some u→W.cell? ⟨R,off + j,none⟩=some u:=by
 intro L
 induction L with
 | nil=>intro off _;exact ⟨[],[],rfl,rfl,by simp [IsBs],by simp [wfBs],by simp [bkBs],fun j u hj=>by simp at hj⟩
 | cons d L ih =>
  intro off hL
  obtain ⟨os,cells,k1,k2,k3,k4,k5,k6⟩:=ih (off + 7) (fun i d hi=>by
   obtain ⟨o,ks,vs,c1,c2,c3,c4⟩:=hL (i + 1) d (by simpa using hi)
   exact ⟨o,ks,vs,c1,c2,c3,fun j u hj=>by have:=c4 j u hj;rw [show off + (i + 1) * 7 + j=off + 7 + i * 7 + j by omega] at this;exact this⟩)
  obtain ⟨o,ks,vs,c1,c2,c3,c4⟩:=hL 0 d rfl
  have hl:(b7 o ks vs).length=7:=rfl
  refine ⟨o::os,b7 o ks vs ++ cells,by simp [k1],by simp [k2,hl];omega,by simp only [IsBs];exact ⟨ks,vs,cells,rfl,c1,k3⟩,by simp only [wfBs];exact ⟨c2,k4⟩,by simp only [bkBs,Rows.uptoBulkAll];omega,fun j u hj=>?_⟩
  by_cases hj7:j < 7
  ·rw [List.getElem?_append_left (by omega)] at hj
   have:=c4 j u hj
   simpa using this
  ·rw [List.getElem?_append_right (by omega),hl] at hj
   have:=k6 (j - 7) u hj
   rw [show off + 7 + (j - 7)=off + j by omega] at this
   exact this
theorem list7 {α:Type} {x0 x1 x2 x3 x4 x5 x6:α} : ∀ {l:List α},l.length=7→l[0]?=some x0→l[1]?=some x1→l[2]?=some x2→l[3]?=some x3→l[4]?=some x4→l[5]?=some x5→l[6]?=some x6→l=[x0,x1,x2,x3,x4,x5,x6]
 | [y0,y1,y2,y3,y4,y5,y6],_,h0,h1,h2,h3,h4,h5,h6=>by
  simp only [List.getElem?_cons_zero,List.getElem?_cons_succ,Option.some.injEq] at h0 h1 h2 h3 h4 h5 h6
  rw [h0,h1,h2,h3,h4,h5,h6]
theorem ob_of_trod {H:Type} {enc:TypeId × Value→H} {W:World} {sp:Nat→Bool} {hd:Bool} : ∀ (fuel:Nat) (cs:List Value) (x:DataW H × List MemPlace),DataW.trod enc Tryz.prog W 0 sp hd fuel 26 cs=some x →
  ∃ (o:OB) (ks vs:Value),cs=b7 o ks vs∧IsB (LtS W) W o ks vs∧wfB o∧bkB o≤Rows.uptoBulk x.1:=by
 intro fuel
 induction fuel using Nat.strongRecOn with
 | _ fuel IH =>
  intro cs x h
  obtain ⟨n,ds,rfl,hx,hdl,hcl,hs⟩:=struct_cellsG Tryz.underlying26 (by kernel_rfl) (fun i f hf=>by
   match i,hf with
   | 0,hf=>simp at hf;subst hf;exact ⟨rfl,by kernel_rfl⟩
   | 1,hf=>simp at hf;subst hf;exact ⟨rfl,by kernel_rfl⟩
   | 2,hf=>simp at hf;subst hf;exact ⟨rfl,by kernel_rfl⟩
   | 3,hf=>simp at hf;subst hf;exact ⟨rfl,by kernel_rfl⟩
   | 4,hf=>simp at hf;subst hf;exact ⟨rfl,by kernel_rfl⟩
   | 5,hf=>simp at hf;subst hf;exact ⟨rfl,by kernel_rfl⟩
   | 6,hf=>simp at hf;subst hf;exact ⟨rfl,by kernel_rfl⟩
   | i + 7,hf=>simp at hf) h
  obtain ⟨d0,q0,c0,a0,b0,t0⟩:=hs 0 _ rfl
  obtain ⟨d1,q1,c1,a1,b1,t1⟩:=hs 1 _ rfl
  obtain ⟨d2,q2,c2,a2,b2,t2⟩:=hs 2 _ rfl
  obtain ⟨d3,q3,c3,a3,b3,t3⟩:=hs 3 _ rfl
  obtain ⟨d4,q4,c4,a4,b4,t4⟩:=hs 4 _ rfl
  obtain ⟨d5,q5,c5,a5,b5,t5⟩:=hs 5 _ rfl
  obtain ⟨d6,q6,c6,a6,b6,t6⟩:=hs 6 _ rfl
  obtain ⟨z0,e0,f0,_⟩:=DataW.trod_int (k:=.i64) (by kernel_rfl) t0
  obtain ⟨z1,e1,f1,_⟩:=DataW.trod_int (k:=.i64) (by kernel_rfl) t1
  obtain ⟨z2,e2,f2,_⟩:=DataW.trod_int (k:=.i64) (by kernel_rfl) t2
  obtain ⟨z3,e3,f3,w3⟩:=trod_floatG (k:=.f64) (by kernel_rfl) t3
  obtain ⟨s,e4,f4,_⟩:=DataW.trod_string (by kernel_rfl) t4
  obtain ⟨keys,hK,hKb⟩:=keys_of t5
  have hkids:∃ (kids:List OB) (cells:List Value),SlAt (LtS W) W c6 7 kids.length cells∧IsBs (LtS W) W kids cells∧wfBs kids∧bkBs kids + 1≤Rows.uptoBulk d6:=by
   rcases slice_cellsG Tryz.underlying24 (sz:=7) (by kernel_rfl) (by omega) t6 with ⟨rfl,hy⟩ | ⟨R,o,len,cap,m,el,rs,so,rfl,rfl,hy,h1,h2,h3,h4,h5⟩
   ·exact ⟨[],[],SlAt.nil _ _ _,by simp [IsBs],by simp [wfBs],by rw [show d6=_ from hy];simp [bkBs,Rows.uptoBulk]⟩
   ·obtain ⟨os,cells,k1,k2,k3,k4,k5,k6⟩:=kids_build (W:=W) (R:=R) (fun _ _=>True) (el.map (·.1)) o (fun i d hi=>by
     rw [List.getElem?_map] at hi
     obtain ⟨y,hy1,rfl⟩:=Option.map_eq_some_iff.1 hi
     obtain ⟨cs',g1,g2,g3⟩:=h5 i y hy1
     obtain ⟨ob,ks,vs,rfl,g4,g5,g6⟩:=IH m (by omega) cs' y g1
     exact ⟨ob,ks,vs,g4,g5,g6,fun j u hj=>by
      have:=g3 j (by have:=(List.getElem?_eq_some_iff.1 hj).1;exact this)
      rw [this];exact hj⟩)
    have k1':os.length=len:=by rw [k1,List.length_map,h3]
    refine ⟨os,cells,⟨k2,so,cap,by rw [k1'],by omega,h2,?_⟩,k3,k4,by rw [show d6=_ from hy];simp only [Rows.uptoBulk];omega⟩
    rcases Nat.eq_zero_or_pos len with hz | hz
    ·exact .inl (by omega)
    ·refine .inr ⟨R,o,h4 hz,?_,k6⟩
     obtain ⟨k,hk⟩:∃ k,cells[0]?=some k:=⟨_,List.getElem?_eq_getElem (by omega)⟩
     exact World.block_lt_of_cell? _ _ (k6 0 _ hk)
  obtain ⟨kids,cells,hV,hI,hwf,hb⟩:=hkids
  simp only [List.cons.injEq,and_true] at e0 e1 e2 e3 e4
  simp only [Prod.mk.injEq] at f0 f1 f2 f4
  obtain ⟨rfl,_⟩:=f0
  obtain ⟨rfl,_⟩:=f1
  obtain ⟨rfl,_⟩:=f2
  obtain ⟨rfl,_⟩:=f4
  subst e0;subst e1;subst e2;subst e3;subst e4
  have f3':d3=.lit (.float .f64 z3):=f3
  subst f3'
  have hcs:=list7 (hcl.trans rfl) b0 b1 b2 b3 b4 b5 b6
  have hds:=list7 (hdl.trans rfl) a0 a1 a2 a3 a4 a5 a6
  refine ⟨.mk z0 z1 z2 z3 s.data.toList keys kids,c5,c6,?_,?_,?_,?_⟩
  ·rw [hcs]
   simp only [b7,OB.k,OB.i,OB.g,OB.r,OB.t]
   rw [←bs_of]
  ·simp only [IsB]
   exact ⟨hK,cells,hV,hI⟩
  ·simp only [wfB]
   refine ⟨?_,hwf⟩
   have h1:z3 < 2 ^ 64:=of_decide_eq_true w3
   omega
  ·rw [hx,hds]
   simp only [bkB,Rows.uptoBulk,Rows.uptoBulkAll] at hKb ⊢
   omega
end Go.Proofs.YtfkecmlmnhbmoaaGreatDoor
namespace Go.Proofs.YtfkecmlmnhbmoaaGreatDoor
theorem encN_len:∀ q:By,(encN q).length≤3 * q.length
 | []=>by simp [encN]
 | d::q=>by have:=encN_len q;simp only [encN];split<;>simp<;>omega
mutual
theorem lv_val:∀ p:PO,lvV (valP p)=lvP p
 | .arr ks=>by simp only [valP,lvV,lvP,lvs_val ks]
 | .dict ks vs=>by simp only [valP,lvV,lvP,lvs_val vs]
 | .null=>rfl
 | .bool _=>rfl
 | .int _=>rfl
 | .real _=>rfl
 | .lit _=>rfl
 | .hexl _=>rfl
 | .name _=>rfl
 | .ref _ _=>rfl
theorem lvs_val:∀ ps:List PO,lvVs (valPs ps)=lvPs ps
 | []=>rfl
 | p::ps=>by simp only [valPs,lvVs,lvPs,lv_val p,lvs_val ps]
end
mutual
theorem pr_len (ff:Nat→By) (R:Nat→Prop):∀ (p:PO) (o:OB),Img p o→okR ff R p→(prP ff p).length + 100≤200 * fwB o
 | .null,.mk k i g x t keys kids,_,_=>by simp only [prP,wNull,fwB];simp;omega
 | .bool b,.mk k i g x t keys kids,_,_=>by cases b<;>(simp [prP,wTrue,wFalse,fwB];omega)
 | .int n,.mk k i g x t keys kids,_,h=>by
  simp only [okR] at h
  have:=Lib.itoa_length_le n (by omega) (by omega)
  simp only [prP,fwB];omega
 | .real x,.mk k i g x' t keys kids,_,h=>by
  simp only [okR] at h
  have:=numOk_len h.1
  simp only [prP,fwB];omega
 | .lit s,.mk k i g x t keys kids,hI,_=>by
  simp only [Img,OB.t] at hI
  obtain ⟨_,rfl⟩:=hI
  simp only [prP,fwB,List.length_cons,List.length_append,List.length_nil];omega
 | .hexl s,.mk k i g x t keys kids,hI,_=>by
  simp only [Img,OB.t] at hI
  obtain ⟨_,rfl⟩:=hI
  simp only [prP,fwB,List.length_cons,List.length_append,List.length_nil];omega
 | .name s,.mk k i g x t keys kids,hI,_=>by
  simp only [Img,OB.t] at hI
  obtain ⟨_,rfl⟩:=hI
  have:=encN_len t
  simp only [prP,fwB,List.length_cons]
  split<;>simp<;>omega
 | .ref n g',.mk k i g x t keys kids,_,h=>by
  simp only [okR] at h
  have:=Lib.itoa_length_le n (by omega) (by omega)
  have:=Lib.itoa_length_le g' (by omega) (by omega)
  simp only [prP,fwB,List.length_cons,List.length_append,List.length_nil];omega
 | .arr ps,.mk k i g x t keys kids,hI,h=>by
  simp only [Img,OB.kids] at hI
  simp only [okR] at h
  have:=prAs_len ff R ps kids hI.2 h true
  simp only [prP,fwB,List.length_cons,List.length_append,List.length_nil];omega
 | .dict ks ps,.mk k i g x t keys kids,hI,h=>by
  simp only [Img,OB.kids,OB.keys] at hI
  simp only [okR] at h
  obtain ⟨_,rfl,hI⟩:=hI
  have:=prDs_len ff R keys ps kids hI h.2.2.2
  simp only [prP,fwB,List.length_cons,List.length_append,List.length_nil];omega
theorem prAs_len (ff:Nat→By) (R:Nat→Prop):∀ (ps:List PO) (os:List OB),Imgs ps os→okRs ff R ps→∀ b:Bool,(prAs ff b ps).length≤200 * fwBs os
 | [],os,_,_,b=>by simp [prAs]
 | p::ps,os,hI,h,b=>by
  simp only [Imgs] at hI
  obtain ⟨o,os',rfl,h1,h2⟩:=hI
  simp only [okRs] at h
  have a1:=pr_len ff R p o h1 h.1
  have a2:=prAs_len ff R ps os' h2 h.2 false
  have a3:(spc (!b && sepA p)).length≤1:=by cases (!b && sepA p)<;>simp [spc]
  simp only [prAs,fwBs,List.length_append]
  omega
theorem prDs_len (ff:Nat→By) (R:Nat→Prop):∀ (keys:List By) (ps:List PO) (os:List OB),Imgs ps os→okRs ff R ps→(prDs ff keys ps).length≤200 * (keys.map fun k=>k.length / 16).sum + 200 * fwBs os
 | [],_,os,_,_=>by simp [prDs]
 | _::_,[],os,_,_=>by simp [prDs]
 | k::ks,p::ps,os,hI,h=>by
  simp only [Imgs] at hI
  obtain ⟨o,os',rfl,h1,h2⟩:=hI
  simp only [okRs] at h
  have a1:=pr_len ff R p o h1 h.1
  have a2:=prDs_len ff R ks ps os' h2 h.2
  have a3:(spc (sepD p)).length≤1:=by cases sepD p<;>simp [spc]
  have a4:=encN_len k
  simp only [prDs,fwBs,List.length_append,List.length_cons,List.map_cons,List.sum_cons]
  omega
end
mutual
theorem lv_fw:∀ (p:PO) (o:OB),Img p o→lvP p≤fwB o
 | .arr ps,.mk k i g x t keys kids,hI=>by
  simp only [Img,OB.kids] at hI
  have:=lvs_fw ps kids hI.2
  simp only [lvP,fwB];omega
 | .dict ks ps,.mk k i g x t keys kids,hI=>by
  simp only [Img,OB.kids] at hI
  have:=lvs_fw ps kids hI.2.2
  simp only [lvP,fwB];omega
 | .null,.mk k i g x t keys kids,_=>by simp only [lvP,fwB];omega
 | .bool _,.mk k i g x t keys kids,_=>by simp only [lvP,fwB];omega
 | .int _,.mk k i g x t keys kids,_=>by simp only [lvP,fwB];omega
 | .real _,.mk k i g x t keys kids,_=>by simp only [lvP,fwB];omega
 | .lit _,.mk k i g x t keys kids,_=>by simp only [lvP,fwB];omega
 | .hexl _,.mk k i g x t keys kids,_=>by simp only [lvP,fwB];omega
 | .name _,.mk k i g x t keys kids,_=>by simp only [lvP,fwB];omega
 | .ref _ _,.mk k i g x t keys kids,_=>by simp only [lvP,fwB];omega
theorem lvs_fw:∀ (ps:List PO) (os:List OB),Imgs ps os→lvPs ps≤fwBs os
 | [],_,_=>by simp [lvPs]
 | p::ps,os,hI=>by
  simp only [Imgs] at hI
  obtain ⟨o,os',rfl,h1,h2⟩:=hI
  have a1:=lv_fw p o h1
  have a2:=lvs_fw ps os' h2
  simp only [lvPs,fwBs];omega
end
end Go.Proofs.YtfkecmlmnhbmoaaGreatDoor
namespace Go.Proofs.YtfkecmlmnhbmoaaGreatDoor
open Go Go.RowKit
open Go.Maps
theorem fo_leaf9 {pf:By→Nat} {ff:Nat→By} {S:Nat→Prop} {w w':World} {o:OB} {e:Ending} {Q:PV→Prop} (h:LfPost w w' Q e) (hQ:∀ x,Q x→∃ p,Img p o∧okS ff (RR pf ff) p∧x=valP p∧match valP p with | .arr _=>False | .dict _ _=>False | _=>True):FoPost pf ff S w w' o e:=by
 obtain ⟨x,b,he,hg,hb⟩:=h
 refine ⟨_,b,he,⟨_,_,_,_,_,_,_,_,_,_,_,rfl⟩,hg,fun h=>?_⟩
 obtain ⟨p,h1,h2,h3,h4⟩:=hQ x (hb h)
 subst h3
 exact ⟨p,nilS,nilS,fun _=>False,h1,h2,rfl,IsV.plain h4,fun k hk=>hk.elim⟩
theorem wf_kids {o:OB} (h:wfB o):o.r < 18446744073709551616∧wfBs o.kids:=by cases o;simpa only [wfB,OB.r,OB.kids] using h
theorem fo_all (pf:By→Nat) (ff:Nat→By) (W0:World) (hpf:PFC pf W0) (hff:FfAll ff W0):∀ (n:Nat) (o:OB),lvB o≤n→FoC pf ff W0 o:=by
 intro n
 induction n with
 | zero=>intro o hl;cases o;simp only [lvB] at hl;omega
 | succ n ih =>
  intro o hlv S w ks vs hbk hfw hwf hI hS hE
  obtain ⟨ko,kc,vo,vc,rfl,rfl,hm1,hm2,hm3,hm4,hK,hV⟩:=hI.view
  have hkl:=bk_keys o
  have hvl:=bk_kids o
  have htl:=fw_text hfw
  have hkid:∀ p∈o.kids,FoC pf ff W0 p∧bkB p≤1048576∧fwB p≤20000∧wfB p:=fun p hp=>⟨ih p (by have:=lv_kid hp;omega),by have:=bk_kid hp;omega,by have:=fw_kid hp;omega,wfBs_mem (wf_kids hwf).2 hp⟩
  have hr:=(wf_kids hwf).1
  have ht:o.t.length≤1000000:=by omega
  obtain ⟨k,i,g,r,t,keys,kids⟩:=o
  simp only [OB.keys,OB.kids,OB.t,OB.r] at *
  unfold obV
  simp only [OB.k,OB.i,OB.g,OB.r,OB.t,OB.keys,OB.kids]
  by_cases k0:k=0
  ·subst k0
   exact (fo_null i g r (bs t) ko vo _ kc _ vc w).mono fun e w' h=>fo_leaf9 h (fun x hx=>⟨.null,by simp [Img,OB.k],⟨by simp [okR],by simp [srP]⟩,hx,trivial⟩)
  by_cases k1:k=1
  ·subst k1
   refine (fo_bool i g r (bs t) ko vo _ kc _ vc w).mono fun e w' h=>fo_leaf9 h ?_
   rintro x ⟨rfl,hi | hi⟩
   ·exact ⟨.bool false,by simp [Img,OB.k,OB.i,hi],⟨by simp [okR],by simp [srP]⟩,by simp [valP,hi],trivial⟩
   ·exact ⟨.bool true,by simp [Img,OB.k,OB.i,hi],⟨by simp [okR],by simp [srP]⟩,by simp [valP,hi],trivial⟩
  by_cases k2:k=2
  ·subst k2
   refine (fo_int i g r (bs t) ko vo _ kc _ vc w).mono fun e w' h=>fo_leaf9 h ?_
   rintro x ⟨rfl,h1,h2⟩
   exact ⟨.int i,by simp [Img,OB.k,OB.i],⟨by simp only [okR];omega,by simp [srP]⟩,rfl,trivial⟩
  by_cases k3:k=3
  ·subst k3
   refine (fo_real i g r ko vo _ kc _ vc w (bs t) pf ff W0 hpf hff hr hE).mono fun e w' h=>fo_leaf9 h ?_
   rintro x ⟨rfl,h1,h2,h3⟩
   exact ⟨.real r,by simp [Img,OB.k,OB.r],⟨by simp only [okR];exact ⟨h1,h2,hr,h3⟩,by simp [srP]⟩,rfl,trivial⟩
  by_cases k4:k=4
  ·subst k4
   refine (fo_lit i g r ko vo _ kc _ vc w t ht).mono fun e w' h=>fo_leaf9 h ?_
   rintro x ⟨q,rfl,h1⟩
   exact ⟨.lit t,by simp [Img,OB.k,OB.t],⟨by simp only [okR];exact ⟨q,h1⟩,by simp [srP]⟩,by simp only [valP,litT,h1],trivial⟩
  by_cases k5:k=5
  ·subst k5
   refine (fo_hexl i g r ko vo _ kc _ vc w t ht).mono fun e w' h=>fo_leaf9 h ?_
   rintro x ⟨rfl,h1⟩
   exact ⟨.hexl t,by simp [Img,OB.k,OB.t],⟨by simp only [okR];exact h1,by simp [srP]⟩,rfl,trivial⟩
  by_cases k6:k=6
  ·subst k6
   refine (fo_name i g r ko vo _ kc _ vc w t ht).mono fun e w' h=>fo_leaf9 h ?_
   rintro x ⟨rfl,h1⟩
   exact ⟨.name t,by simp [Img,OB.k,OB.t],⟨by simp only [okR];exact h1,by simp [srP]⟩,rfl,trivial⟩
  by_cases k9:k=9
  ·subst k9
   refine (fo_ref i g r (bs t) ko vo _ kc _ vc w).mono fun e w' h=>fo_leaf9 h ?_
   rintro x ⟨rfl,h1,h2,h3,h4⟩
   exact ⟨.ref i g,by simp [Img,OB.k,OB.i,OB.g],⟨by simp only [okR];omega,by simp [srP]⟩,rfl,trivial⟩
  by_cases k7:k=7
  ·subst k7
   refine (fo_arr pf ff W0 kids hkid (by omega) i g r (bs t) ko vo _ kc vc S w hV hm4 hS hE).mono fun e w' h=>?_
   obtain ⟨v,b,he,hsh,hg,hb⟩:=h
   refine ⟨v,b,he,hsh,hg,fun hbt=>?_⟩
   obtain ⟨-,ps,vs,S',himg,hok,rfl,⟨cells,hsl,hO⟩,hbd⟩:=hb hbt
   refine ⟨.arr ps,.slice none 0 0,vs,S',by simp only [Img];exact ⟨rfl,himg⟩,⟨by simp only [okR];exact hok.1,by simp only [srP];exact hok.2⟩,rfl,?_,hbd⟩
   simp only [valP,IsV]
   exact ⟨SlAt.nil _ _ _,cells,hsl,hO⟩
  by_cases k8:k=8
  ·subst k8
   refine (fo_dict pf ff W0 keys kids hkid (by omega) (by omega) (fun q hq=>by have:=bk_key (o:=.mk 8 i g r t keys kids) hq;omega) i g r (bs t) ko vo kc vc S w hK hV hm3 hm4 hS hE).mono fun e w' h=>?_
   obtain ⟨v,b,he,hsh,hg,hb⟩:=h
   refine ⟨v,b,he,hsh,hg,fun hbt=>?_⟩
   obtain ⟨⟨hkl2,hup⟩,ps,vs,S',himg,hok,rfl,⟨cells,hsl,hO⟩,hbd⟩:=hb hbt
   have hup1:=hup.1
   have hup2:=hup.2
   rw [List.take_length] at hup1 hup2
   have hpl:=Imgs.len himg
   refine ⟨.dict keys ps,.slice ko keys.length kc,vs,fun k=>S' k∨S k,by simp only [Img];exact ⟨rfl,rfl,himg⟩,⟨by simp only [okR];exact ⟨by omega,KeysUp.nodup hup2,hup1,hok.1⟩,by simp only [srP];exact ⟨hup2,hok.2⟩⟩,rfl,?_,?_⟩
   ·simp only [IsB] at hI
    simp only [valP,IsV]
    refine ⟨hI.1.keep (fun k hk=>⟨.inr hk,hg.block k (hS k hk) (by simp)⟩),cells,hsl.keep (fun k hk=>⟨.inl hk,rfl⟩),IsVs.keep (fun k hk=>⟨.inl hk,rfl⟩) _ _ hO⟩
   ·intro k hk
    rcases hk with hk | hk
    ·exact hbd k hk
    ·exact ⟨.inl hk,Nat.lt_of_lt_of_le (hS k hk) hg.size⟩
  refine (fo_none i g r (bs t) ko vo _ kc _ vc w k ⟨by simpa using k0,by simpa using k1,by simpa using k2,by simpa using k3,by simpa using k4,by simpa using k5,by simpa using k6,by simpa using k9,by simpa using k7,by simpa using k8⟩).mono fun e w' h=>fo_leaf9 h (fun x hx=>hx.elim)
end Go.Proofs.YtfkecmlmnhbmoaaGreatDoor
namespace Go.Proofs.YtfkecmlmnhbmoaaGreatDoor
open Go Go.RowKit
open Go.Maps
def F7Post (pf:By→Nat) (ff:Nat→By) (S:Nat→Prop) (w w':World) (o:OB) (e:Ending):Prop :=
 ∃ (v:Value) (b:Bool),e=.returned (.tuple #[v,.bool b])∧Shape7 v∧w.grownBy w' none ∧
  (b=true→fwB o≤20000∧∃ (p:PO) (ks vs:Value) (S':Nat→Prop),Img p o∧okS ff (RR pf ff) p∧v=valOf (valP p) ks vs∧IsV S' w' (valP p) ks vs∧(∀ k,S' k→(S k∨w.heap.size≤k)∧k < w'.heap.size))
set_option maxRecDepth 100000 in
set_option maxHeartbeats 40000000 in
theorem fo_ret2 {w3:World} {B:Nat} {a0 a1 a2 a3 a4 a5 a6 v0 v1 v2 v3 v4 v5 v6 u3:Value} {tmps:Array Value} {R:Ending→World→Prop} (h2:tmps.getD 2 undef=.pointer (some ⟨B,0,none⟩)) (h3:tmps.getD 3 undef=u3)
  (hz:w3.heap[B]?=some (.cells #[a0,a1,a2,a3,a4,a5,a6] 30 (0,0)))
  (hR:∀ w',(∀ k,k≠B→w'.heap[k]?=w3.heap[k]?)→w'.heap.size=w3.heap.size→(∀ w0 r,World.grownBy w0 w3 r→w0.heap.size≤B→World.grownBy w0 w' r)→R (.returned (.tuple #[.agg #[v0,v1,v2,v3,v4,v5,v6],u3])) w'):bodyPost Tryz.prog Tryz.f7 R Exit.ret { tmps:=tmps,defers:=[] } (set7 w3 B v0 v1 v2 v3 v4 v5 v6):=by
 have hz4:=set7_at hz v0 v1 v2 v3 v4 v5 v6
 have hR4:=hR _ (fun k hk=>set7_other w3 B k v0 v1 v2 v3 v4 v5 v6 hk) (set7_size w3 B v0 v1 v2 v3 v4 v5 v6) (fun w0 r hg hB=>set7_gr hg hB v0 v1 v2 v3 v4 v5 v6)
 generalize set7 w3 B v0 v1 v2 v3 v4 v5 v6=w4 at *
 obtain ⟨y0,y1,y2,y3,y4,y5,y6,yf⟩:=cells7 hz4
 simp only [Array.getD_eq_getD_getElem?] at h2 h3
 exact bodyPost_ret (v:=.tuple #[.agg #[v0,v1,v2,v3,v4,v5,v6],u3]) (by simp [results,Tryz.results7,go_sem,h2,h3,y0,y1,y2,y3,y4,y5,y6]) rfl hR4
set_option maxRecDepth 100000 in
set_option maxHeartbeats 40000000 in
theorem f7_any (pf:By→Nat) (ff:Nat→By) (W0:World) (hpf:PFC pf W0) (hff:FfAll ff W0) (o:OB) (S:Nat→Prop) (w:World) (ks vs:Value) (hbk:bkB o≤1048576) (hwf:wfB o) (hI:IsB S w o ks vs) (hS:∀ k,S k→k < w.heap.size) (hE:Env W0 w) :
  Calls Tryz.prog 7 #[obV o ks vs] w fun e w'=>F7Post pf ff S w w' o e:=by
 obtain ⟨ko,kc,vo,vc,rfl,rfl,-⟩:=hI.slices
 obtain ⟨a0,a1,a2,a3⟩:=alloc3 w (.cells #[.int .i64 o.k,.int .i64 o.i,.int .i64 o.g,.float .f64 o.r,.string (bs o.t),.slice ko o.keys.length kc,.slice vo o.kids.length vc] 26) Z30 (.cells #[.int .i64 20000] 3)
 have hg0:w.grownBy (((w.alloc (.cells #[.int .i64 o.k,.int .i64 o.i,.int .i64 o.g,.float .f64 o.r,.string (bs o.t),.slice ko o.keys.length kc,.slice vo o.kids.length vc] 26)).alloc Z30).alloc (.cells #[.int .i64 20000] 3)) none:=gr_alloc (gr_alloc (gr_alloc (World.grownBy.refl w none) _) _) _
 obtain ⟨W,hW⟩:∃ W,W=(((w.alloc (.cells #[.int .i64 o.k,.int .i64 o.i,.int .i64 o.g,.float .f64 o.r,.string (bs o.t),.slice ko o.keys.length kc,.slice vo o.kids.length vc] 26)).alloc Z30).alloc (.cells #[.int .i64 20000] 3)):=⟨_,rfl⟩
 rw [←hW] at a0 a1 a2 hg0
 have hfew:=few_any (lvB o) o (Nat.le_refl _) S W _ _ (w.heap.size + 1 + 1) 20000 hbk (IsB.keep (fun k hk=>⟨hk,hg0.block k (hS k hk) (by simp)⟩) _ _ _ hI) (fun k hk=>by have:=hS k hk;have:=hg0.size;omega) a2 (by omega) (by omega)
 have hfo:=fun (w2:World) (hg:w.grownBy w2 none) (hfw:fwB o≤20000)=>fo_all pf ff W0 hpf hff (lvB o) o (Nat.le_refl _) S w2 _ _ hbk hfw hwf (IsB.keep (fun k hk=>⟨hk,hg.block k (hS k hk) (by simp)⟩) _ _ _ hI) (fun k hk=>Nat.lt_of_lt_of_le (hS k hk) hg.size) (hE.grown0 hg)
 have Hfo:=Lib.hid hfo
 have HS:=Lib.hid hS
 unfold obV at hfew Hfo ⊢
 obtain ⟨F,hF⟩:∃ F,F=fwB o:=⟨_,rfl⟩
 rw [←hF] at hfew
 have HF:=Lib.hid hF
 clear hfo hS hI hE hpf hff hF hwf
 unfold Z30 at hW a1
 generalize o.k=k1 at *
 generalize o.i=k2 at *
 generalize o.g=k3 at *
 generalize o.r=k4 at *
 generalize bs o.t=k5 at *
 generalize o.keys.length=k6 at *
 generalize o.kids.length=k7 at *
 have Hfew:=Lib.hid hfew
 have Hz:=Lib.hid a1
 have Hb:=Lib.hid a0
 have Hg0:=Lib.hid hg0
 clear hfew a0 a1 a2 a3 hg0
 go_enter Tryz.func7,Tryz.ntmps7
 go_wp2_with fail
 rw [←hW]
 clear hW
 refine Hfew.out.mono ?_
 rintro e w1 ⟨b,L',rfl,hc1,hg1,hb1⟩
 have hbk1:=(hg1.block _ (Array.getElem?_eq_some_iff.1 Hb.out).1 (by simp;omega)).trans Hb.out
 have hz1:=(hg1.block _ (Array.getElem?_eq_some_iff.1 Hz.out).1 (by simp)).trans Hz.out
 have hG1:w.grownBy w1 none:=gr_noneThen Hg0.out hg1 (fun k hk=>by injection hk with hk;omega)
 obtain ⟨y0,y1,y2,y3,y4,y5,y6,yf⟩:=cells7 hbk1
 obtain ⟨z0,z1,z2,z3,z4,z5,z6,zf⟩:=cells7 hz1
 have HZ1:=Lib.hid hz1
 have HG1:=Lib.hid hG1
 have Hb1:=Lib.hid hb1
 clear hbk1 hz1 hG1 hc1 hg1 hb1
 cases b
 ·go_wp2_with fail
  refine fo_ret rfl rfl HZ1.out ?_
  intro w' hgr
  exact ⟨_,false,rfl,⟨_,_,_,_,_,_,_,_,_,_,_,rfl⟩,hgr _ _ HG1.out (by omega),fun h=>by cases h⟩
 ·have hfw:fwB o≤20000:=by have:=Hb1.out rfl;have:=HF.out;omega
  go_wp2_with fail
  refine (Hfo.out w1 HG1.out hfw).mono ?_
  rintro e w2 ⟨v,b,rfl,hsh,hg2,hb2⟩
  obtain ⟨sk,sn2,sg,sx,st,so1,sn1,sc1,so2,sn3,sc2,rfl⟩:=hsh
  have hz2:=(hg2.block _ (Array.getElem?_eq_some_iff.1 HZ1.out).1 (by simp)).trans HZ1.out
  have HZ2:=Lib.hid hz2
  have HG2:=Lib.hid (HG1.out.trans hg2)
  have Hb2:=Lib.hid hb2
  have Hzl:=Lib.hid (Array.getElem?_eq_some_iff.1 HZ1.out).1
  have Hfw:=Lib.hid hfw
  clear y0 y1 y2 y3 y4 y5 y6 yf z0 z1 z2 z3 z4 z5 z6 zf hb2 hg2 hfw
  obtain ⟨z0,z1,z2,z3,z4,z5,z6,zf⟩:=cells7 hz2
  clear hz2
  go_wp2_with fail
  refine fo_ret2 rfl rfl HZ2.out ?_
  intro w' hk hsz hgr
  refine ⟨_,b,rfl,⟨_,_,_,_,_,_,_,_,_,_,_,rfl⟩,hgr _ _ HG2.out (by omega),fun h=>⟨Hfw.out,?_⟩⟩
  obtain ⟨p,ks,vs,S',himg,hok,hv,hV,hbd⟩:=Hb2.out h
  refine ⟨p,ks,vs,S',himg,hok,hv,IsV.keep (fun k hk'=>⟨hk',hk k (fun e=>?_)⟩) _ _ _ hV,fun k hk'=>?_⟩
  ·have h1:=hbd k hk'
   have:=Hzl.out
   rcases h1.1 with h2 | h2
   ·have:=HS.out k h2;omega
   ·omega
  ·have h1:=hbd k hk'
   exact ⟨by rcases h1.1 with h2 | h2;exact .inl h2;exact .inr (by have:=HG1.out.size;omega),by rw [hsz];exact h1.2⟩
end Go.Proofs.YtfkecmlmnhbmoaaGreatDoor
