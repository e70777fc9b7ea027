/- FnParse: the texts K9 K10 L4 R2 of the workbench, laid together. -/
import Derived.Test.YtfkecmlmnhbmoaaGreatDoorProg
import Derived.WalkKit
import Derived.WalkLawsBesides
import Derived.WalkSpells
import Derived.BigQuiet
import Derived.BigRegion
import Derived.Deep.QuietTactic
import Derived.Deep.RegionHeld3
import Derived.Deep.LoopGhost
import Derived.StillTailTactics
import Derived.Lib.Hide
import Derived.Laws.EntriesVeiled
import Derived.Deep.Cut
import Derived.ProofKit
import Derived.OpenShut
import Derived.OpenVars
import Derived.ChangeSame
import Derived.ChangeMaps5
import Derived.Deep.DeepHandedRow
import Derived.Test.YtfkecmlmnhbmoaaGreatDoorZ22
import Derived.Test.YtfkecmlmnhbmoaaGreatDoorZ29
import Derived.Test.YtfkecmlmnhbmoaaGreatDoorZ38
import Derived.Test.YtfkecmlmnhbmoaaGreatDoorZ45
import Derived.Test.YtfkecmlmnhbmoaaGreatDoorZ46
import Derived.Test.YtfkecmlmnhbmoaaGreatDoorZ47
set_option linter.unusedVariables false
set_option linter.unusedSimpArgs false
namespace Go.Proofs.YtfkecmlmnhbmoaaGreatDoor
open Go Go.RowKit
open Go.Maps
theorem cells7_set6 {w:World} {b:Nat} {a0 a1 a2 a3 a4 a5 a6:Value} {t:TypeId} (h:w.heap[b]?=some (.cells #[a0,a1,a2,a3,a4,a5,a6] t (0,0))) (u:Value):(w.setCell ⟨b,6,none⟩ u).heap[b]?=some (.cells #[a0,a1,a2,a3,a4,a5,u] t (0,0)):=by
  simp [World.setCell,Array.getElem?_modify,h]
structure FpJ (w wr:World) (S:Nat→Prop) (i:Nat) (qs:List PO) (kk:Int) (ksv:Value) (so:Option Addr) (sn sc:Nat) (cells:List Value) (S2:Nat→Prop):Prop where
  vcell:wr.heap[w.heap.size + 1 + 1]?=some (.cells #[.int .i64 kk,.int .i64 0,.int .i64 0,.float .f64 0,.string ⟨#[]⟩,ksv,.slice so sn sc] 30 (0,0))
  res:wr.heap[w.heap.size + 1]?=some Z30
  row:wr.ownsRow (w.heap.size + 3) 30 7 (.slice so sn sc) i cells
  objs:IsVs S2 wr ((valPs qs).take i) cells
  bnd:∀ k,S2 k→(S k∨w.heap.size + 3≤k)∧k < wr.heap.size∧(Value.slice so sn sc).ownBlock≠some k
  grow:w.grownBy wr none
theorem IsOs.get {S:Nat→Prop} {w:World} : ∀ (ps:List PO) (c:List Value),IsOs S w ps c→∀ (i:Nat) p,ps[i]?=some p→∃ ks vs,IsO S w p ks vs∧∀ j u,(o7 p ks vs)[j]?=some u→c[i * 7 + j]?=some u
  | [],c,h,i,p,hi=>by simp at hi
  | q :: ps, c, h, i, p, hi => by
    simp only [IsOs] at h
    obtain ⟨ks,vs,rest,h1,h2,h3⟩:=h
    subst h1
    cases i with
    | zero =>
      simp at hi;subst hi
      refine ⟨ks,vs,h2,fun j u hj=>?_⟩
      rw [List.getElem?_append_left (by have:=(List.getElem?_eq_some_iff.1 hj).1;omega)]
      simpa using hj
    | succ i =>
      obtain ⟨ks',vs',h4,h5⟩:=IsOs.get ps rest h3 i p (by simpa using hi)
      refine ⟨ks',vs',h4,fun j u hj=>?_⟩
      have hl:(o7 q ks vs).length=7:=rfl
      rw [List.getElem?_append_right (by omega),hl,show (i + 1) * 7 + j - 7=i * 7 + j by omega]
      exact h5 j u hj
set_option maxRecDepth 100000 in
set_option maxHeartbeats 40000000 in
theorem fp_arr (ps:List PO) (hP:∀ p∈ps,FP p) (S:Nat→Prop) (w:World) (ks vs:Value) (hok:okPs ps) (hI:IsO S w (.arr ps) ks vs) (hS:∀ k,S k→k < w.heap.size) :
    Calls Tryz.prog 14 #[objV (.arr ps) ks vs] w fun e w'=>FPPost S w w' (.arr ps) e:=by
  simp only [IsO] at hI
  obtain ⟨hlen,hks,cells,hvs,hIs⟩:=hI
  obtain ⟨_,ko,kc,rfl,_⟩:=hks
  obtain ⟨hcl,vo,vc,rfl,hv1,hv2,hv3⟩:=hvs
  unfold objV kO iO gO rO tO at *
  obtain ⟨N,hN⟩:∃ N,N=ps.length:=⟨_,rfl⟩
  have HP:=Lib.hid hP
  have Hok:=Lib.hid hok
  have HS:=Lib.hid hS
  have HIs:=Lib.hid hIs
  rw [←hN] at hlen hcl hv1 hv3 ⊢
  have Hv3:=Lib.hid hv3
  have HN:=Lib.hid hN
  have Hcl:=Lib.hid hcl
  obtain ⟨q0,q1,q2,q3⟩:=alloc3 w (.cells #[.int .i64 7,.int .i64 0,.int .i64 0,.float .f64 0,.string (bs []),.slice ko 0 kc,.slice vo N vc] 26) Z30 (.cells #[.int .i64 6,.int .i64 0,.int .i64 0,.float .f64 0,.string ⟨#[]⟩,.slice none 0 0,.slice none 0 0] 30)
  have hGW:w.grownBy (((w.alloc (.cells #[.int .i64 7,.int .i64 0,.int .i64 0,.float .f64 0,.string (bs []),.slice ko 0 kc,.slice vo N vc] 26)).alloc Z30).alloc (.cells #[.int .i64 6,.int .i64 0,.int .i64 0,.float .f64 0,.string ⟨#[]⟩,.slice none 0 0,.slice none 0 0] 30)) none:=gr_alloc (gr_alloc (gr_alloc (World.grownBy.refl w none) _) _) _
  obtain ⟨W,hW⟩:∃ W,W=(((w.alloc (.cells #[.int .i64 7,.int .i64 0,.int .i64 0,.float .f64 0,.string (bs []),.slice ko 0 kc,.slice vo N vc] 26)).alloc Z30).alloc (.cells #[.int .i64 6,.int .i64 0,.int .i64 0,.float .f64 0,.string ⟨#[]⟩,.slice none 0 0,.slice none 0 0] 30)):=⟨_,rfl⟩
  rw [←hW] at q0 q1 q2 hGW
  clear hP hok hS hIs hv3 hN hcl q3
  go_enter Tryz.func14,Tryz.ntmps14
  go_wp2_with fail
  unfold Z30 at hW
  rw [←hW]
  clear hW
  have hJ0:FpJ w W S 0 ps (6) (.slice none 0 0) none 0 0 [] (fun _=>False):=⟨q2,q1,World.ownsRow_nil _ _ _ _,by simp [IsVs],fun k hk=>hk.elim,hGW⟩
  have HJ0:=Lib.hid hJ0
  clear hJ0 q0 q1 q2 hGW
  go_loopg [37] N (fun g t37 wr=>∃ i so sn sc cells2 S2,t37=.int .i64 (i:Nat)∧g=N - i∧i≤N∧FpJ w wr S i ps (6) (.slice none 0 0) so sn sc cells2 S2)
  case atStart=>exact ⟨0,none,0,0,[],_,rfl,rfl,Nat.zero_le _,HJ0.out⟩
  case round =>
    clear HJ0
    obtain ⟨i,so,sn,sc,cells2,S2,rfl,hg,hi,hJ⟩:=hrel
    have HJ:=Lib.hid hJ
    have Hg:=Lib.hid hg
    obtain ⟨v0,v1,v2,v3,v4,v5,v6,vf⟩:=cells7 hJ.vcell
    obtain ⟨z0,z1,z2,z3,z4,z5,z6,zf⟩:=cells7 hJ.res
    clear hJ hg
    by_cases hiN:i < N
    · rcases Hv3.out with h0 | ⟨b0,i0,rfl,hSb,hcells⟩
      · omega
      obtain ⟨pi,hpi⟩:∃ p,ps[i]?=some p:=⟨_,List.getElem?_eq_getElem (by rw [←HN.out];exact hiN)⟩
      obtain ⟨ksi,vsi,hIi,hci⟩:=IsOs.get ps cells HIs.out i pi hpi
      obtain ⟨⟨kso,ksn,ksc,rfl⟩,⟨vso,vsn,vsc,rfl⟩⟩:=IsO.slices hIi
      have hblk:∀ k,S k→wr.heap[k]?=w.heap[k]?:=fun k hk=>HJ.out.grow.block k (HS.out k hk) (by simp)
      have hcc:∀ j u,(o7 pi (.slice kso ksn ksc) (.slice vso vsn vsc))[j]?=some u→wr.cell? ⟨b0,i0 + i * 7 + j,none⟩=some u:=fun j u hj=>by rw [Nat.add_assoc];exact (World.cell?_of_block (hblk b0 hSb)).trans (hcells _ u (hci j u hj))
      have e0:wr.cell? ⟨b0,i0 + i * 7,none⟩=_:=hcc 0 _ rfl
      have e1:=hcc 1 _ rfl
      have e2:=hcc 2 _ rfl
      have e3:=hcc 3 _ rfl
      have e4:=hcc 4 _ rfl
      have e5:=hcc 5 _ rfl
      have e6:=hcc 6 _ rfl
      have hcall:=fun (w2:World) (hg2:wr.grownBy w2 none)=>HP.out pi (List.mem_of_getElem? hpi) S w2 (.slice kso ksn ksc) (.slice vso vsn vsc) ((okPs_all ps).1 Hok.out pi (List.mem_of_getElem? hpi)) (IsO.keep (S':=S) (fun k hk=>⟨hk,(hg2.block k (Nat.lt_of_lt_of_le (HS.out k hk) HJ.out.grow.size) (by simp)).trans (hblk k hk)⟩) _ _ _ hIi) (fun k hk=>Nat.lt_of_lt_of_le (Nat.lt_of_lt_of_le (HS.out k hk) HJ.out.grow.size) hg2.size)
      have Hpi:=Lib.hid hpi
      have hnm:(i:Int) < N:=by omega
      have Hcall:=Lib.hid hcall
      clear hcall hcc hIi hci hpi hcells hblk
      unfold objV at Hcall
      generalize kO pi=k1 at *
      generalize iO pi=k2 at *
      generalize gO pi=k3 at *
      generalize rO pi=k4 at *
      generalize bs (tO pi)=k5 at *
      have HE:=Lib.hid (And.intro hnm e0)
      go_wp2_with fail
      obtain ⟨Wa,hWa⟩:∃ Wa,Wa=wr.alloc (.cells #[.int .i64 k1,.int .i64 k2,.int .i64 k3,.float .f64 k4,.string k5,.slice kso ksn ksc,.slice vso vsn vsc] 26):=⟨_,rfl⟩
      have hga:wr.grownBy Wa none:=by rw [hWa];exact gr_alloc (World.grownBy.refl _ _) _
      rw [←hWa]
      refine (Hcall.out Wa hga).mono ?_
      rintro e w2 ⟨ks3,vs3,S3,rfl,hI3,hS3,hg2⟩
      obtain ⟨⟨ko3,kn3,kc3,rfl⟩,⟨vo3,vn3,vc3,rfl⟩⟩:=IsV.slices hI3
      have hg2':=hga.trans hg2
      have hv2:=(hg2'.block _ (Array.getElem?_eq_some_iff.1 HJ.out.vcell).1 (by simp)).trans HJ.out.vcell
      have hz2:=(hg2'.block _ (Array.getElem?_eq_some_iff.1 HJ.out.res).1 (by simp)).trans HJ.out.res
      have Hrow2:=Lib.hid (row_keptB HJ.out.row hg2' (fun k hk=>by simp))
      have HI3:=Lib.hid hI3
      have HS3:=Lib.hid hS3
      have Hga:=Lib.hid hga.size
      have Hg2:=Lib.hid hg2'
      have Hv2:=Lib.hid hv2
      have Hz2:=Lib.hid hz2
      have Hw2:=Lib.hid (show w.heap.size + 3≤w2.heap.size by have:=(Array.getElem?_eq_some_iff.1 hv2).1;omega)
      clear v0 v1 v2 v3 v4 v5 v6 vf z0 z1 z2 z3 z4 z5 z6 zf e0 e1 e2 e3 e4 e5 e6
      obtain ⟨v0,v1,v2,v3,v4,v5,v6,vf⟩:=cells7 hv2
      obtain ⟨q,hq⟩:∃ q,q=valP pi:=⟨_,rfl⟩
      rw [←hq] at HI3 ⊢
      have Hq:=Lib.hid hq
      obtain ⟨ti,hti,htz0,htz1,htz2⟩:=info_parts Tryz.info30
      have hlt2:w.heap.size + 1 + 1 < w2.heap.size:=(Array.getElem?_eq_some_iff.1 hv2).1
      clear hWa hga hI3 hS3 hg2 hg2' hv2 hz2 hq
      unfold valOf
      go_wp2_with (first | (at_builtin;refine wpList_append_own_at _ rfl _ _ 28 rfl (w.heap.size + 3) 30 ti _ 7 96 Tryz.underlying28 hti htz0 htz1 htz2 rfl (by decide) _ _ _ rfl (World.ownsRow.alloc (World.ownsRow.alloc Hrow2.out _) _) ⟨w2.heap.size + 1,0,none⟩ 1 1 (c7 q (.slice ko3 kn3 kc3) (.slice vo3 vn3 vc3)) (by rfl) (by rfl) (World.news_of_block (alloc2 w2 w2.heap.size rfl _ _).2) (by simp [Value.oneCell',c7]) (by unfold maxLen;omega) (by omega) (by have:=Hw2.out;simp;omega) ?_))
      intro v7 w7 ho7 hg7 _ hat7
      have hshape:∃ gg cap,v7=.slice (some ⟨gg,0,none⟩) (i + 1) cap:=by
        rcases ho7.2 with ⟨_,h0⟩ | ⟨gg,cap,cur,h,_⟩
        · exact absurd h0 (by omega)
        · exact ⟨gg,cap,h⟩
      obtain ⟨gg,cap7,rfl⟩:=hshape
      have hwi:IntKind.i64.wrap ((i:Int) + 1)=(i:Int) + 1:=IntWalk.i64_in _ (by omega)
      have hg27:=gr_alloc_then (gr_alloc_then hg7)
      have hrl:=World.ownsRow.lt HJ.out.row
      have hv7:=(hg27.block _ (Array.getElem?_eq_some_iff.1 Hv2.out).1 (fun e=>by have:=hrl _ e.symm;omega)).trans Hv2.out
      have hz7:=(hg27.block _ (Array.getElem?_eq_some_iff.1 Hz2.out).1 (fun e=>by have:=hrl _ e.symm;omega)).trans Hz2.out
      obtain ⟨x0,x1,x2,x3,x4,x5,x6,xf⟩:=cells7 hv7
      have Hg7:=Lib.hid hg27
      have Ho7:=Lib.hid ho7
      have Hv7:=Lib.hid hv7
      have Hz7:=Lib.hid hz7
      have Hat7:=Lib.hid (show (Value.slice so sn sc).ownBlock=some gg∨w2.heap.size≤gg from by
        rcases hat7 with h | h
        · left;rw [←h];rfl
        · right;simp [Value.ownBlock] at h;omega)
      clear hg7 ho7 hat7 hg27 hv7 hz7 hrl v0 v1 v2 v3 v4 v5 v6 vf
      go_wp2_with fail
      go_roundg (N - (i + 1))
      case measure=>rw [Hg.out];omega
      case rel =>
        have hJ:=HJ.out
        have hrl:=World.ownsRow.lt hJ.row
        have hs2:=Hg2.out.size
        have hs7:=Hg7.out.size
        have hsa:=Hga.out
        have hw:=hJ.grow.size
        have hst:=gr_set (World.grownBy.refl w7 (some (w.heap.size + 1 + 1))) 6 (.slice (some ⟨gg,0,none⟩) (i + 1) cap7)
        have hsz:=hst.size
        have hrl7:=World.ownsRow.lt Ho7.out
        have hgg:=hrl7 gg rfl
        refine ⟨i + 1,_,_,_,_,fun k=>S2 k∨S3 k,by simp,rfl,by omega,⟨cells7_set6 Hv7.out _,(hst.block _ (Array.getElem?_eq_some_iff.1 Hz7.out).1 (by simp)).trans Hz7.out,row_keptB Ho7.out hst (fun k hk e=>by injection e with e;have:=hrl7 k hk;omega),?_,?_,?_⟩⟩
        · have htk:(valPs ps).take (i + 1)=(valPs ps).take i ++ [q]:=by
            rw [valPs_map,Hq.out,List.take_add_one,List.getElem?_map,Hpi.out]
            rfl
          rw [htk]
          refine IsVs.append (IsVs.one (IsV.keep (fun k hk=>⟨.inr hk,?_⟩) _ _ _ HI3.out)) _ _ (IsVs.keep (fun k hk=>⟨.inl hk,?_⟩) _ _ hJ.objs)
          · have h1:=HS3.out k hk
            have h2:k≠w.heap.size + 1 + 1:=by
              rcases h1.1 with h | h
              · have:=HS.out k h;omega
              · have:=(Array.getElem?_eq_some_iff.1 hJ.vcell).1;omega
            refine (hst.block k (by omega) (by simp;omega)).trans (Hg7.out.block k h1.2 (fun e=>?_))
            have h3:=hrl k e.symm
            rcases h1.1 with h | h
            · have:=HS.out k h;omega
            · omega
          · have h1:=hJ.bnd k hk
            have h2:k≠w.heap.size + 1 + 1:=by
              rcases h1.1 with h | h
              · have:=HS.out k h;omega
              · omega
            exact (hst.block k (by omega) (by simp;omega)).trans ((Hg7.out.block k (by omega) (fun e=>h1.2.2 e.symm)).trans (Hg2.out.block k h1.2.1 (by simp)))
        · intro k hk
          rcases hk with hk | hk
          · have h1:=hJ.bnd k hk
            refine ⟨h1.1,by omega,fun e=>?_⟩
            have e:gg=k:=by simpa [Value.ownBlock] using e
            rcases Hat7.out with h | h
            · exact h1.2.2 (h.trans (by rw [e]))
            · omega
          · have h1:=HS3.out k hk
            have hvl:=(Array.getElem?_eq_some_iff.1 hJ.vcell).1
            refine ⟨by rcases h1.1 with h | h;exact .inl h;exact .inr (by omega),by omega,fun e=>?_⟩
            have e:gg=k:=by simpa [Value.ownBlock] using e
            rcases Hat7.out with h | h
            · have h5:=hrl gg h
              rcases h1.1 with h4 | h4
              · have:=HS.out k h4;omega
              · omega
            · omega
        · exact gr_noneThen (gr_noneThen (hJ.grow.trans Hg2.out) Hg7.out (fun j hj=>by have:=hrl j hj;omega)) hst (fun j hj=>by injection hj with hj;omega)
    · obtain rfl:i=N:=by omega
      go_wp2_with fail
      refine fp_ret rfl rfl HJ.out.res ?_
      intro w' hk hsz hgr
      have hJ:=HJ.out
      have hrl:=World.ownsRow.lt hJ.row
      have hne:∀ k,(S2 k∨(Value.slice so sn sc).ownBlock=some k)→k≠w.heap.size + 1:=fun k hk=>by
        rcases hk with hk | hk
        · rcases (hJ.bnd k hk).1 with h | h
          · have:=HS.out k h;omega
          · omega
        · have:=hrl k hk;omega
      have hO:=IsVs.keep (S':=fun k=>S2 k∨(Value.slice so sn sc).ownBlock=some k) (w':=w') (fun k hk'=>⟨.inl hk',hk k (hne k (.inl hk'))⟩) _ _ hJ.objs
      rw [List.take_of_length_le (by rw [valPs_map];simp;have:=HN.out;omega)] at hO
      have hSl:=(SlAt.of_row hJ.row (fun k=>(Value.slice so sn sc).ownBlock=some k) (fun k hk=>hk)).keep (S':=fun k=>S2 k∨(Value.slice so sn sc).ownBlock=some k) (w':=w') (fun k hk'=>⟨.inr hk',hk k (hne k (.inr hk'))⟩)
      have hbnd:∀ k,(S2 k∨(Value.slice so sn sc).ownBlock=some k)→(S k∨w.heap.size≤k)∧k < w'.heap.size:=fun k hk=>by
        rw [hsz]
        rcases hk with hk | hk
        · have:=hJ.bnd k hk
          exact ⟨by rcases this.1 with h | h;exact .inl h;exact .inr (by omega),this.2.1⟩
        · have:=hrl k hk
          exact ⟨.inr (by omega),this.2⟩
      have hgw:=hgr _ _ hJ.grow (by omega)
      refine ⟨.slice none 0 0,.slice so sn sc,fun k=>S2 k∨(Value.slice so sn sc).ownBlock=some k,rfl,?_,hbnd,hgw⟩
      simp only [valP,IsV]
      refine ⟨SlAt.nil _ _ _,cells2,?_,hO⟩
      rw [valPs_map,List.length_map,←HN.out]
      exact hSl
end Go.Proofs.YtfkecmlmnhbmoaaGreatDoor
namespace Go.Proofs.YtfkecmlmnhbmoaaGreatDoor
open Go Go.RowKit
open Go.Maps
set_option maxRecDepth 100000 in
set_option maxHeartbeats 40000000 in
theorem fp_dict (keys:List By) (ps:List PO) (hP:∀ p∈ps,FP p) (S:Nat→Prop) (w:World) (ks vs:Value) (hok:okPs ps) (hI:IsO S w (.dict keys ps) ks vs) (hS:∀ k,S k→k < w.heap.size) :
    Calls Tryz.prog 14 #[objV (.dict keys ps) ks vs] w fun e w'=>FPPost S w w' (.dict keys ps) e:=by
  simp only [IsO] at hI
  obtain ⟨hkok,hkl,hks,cells,hvs,hIs⟩:=hI
  have hks0:=hks
  obtain ⟨_,ko,kc,rfl,_⟩:=hks
  obtain ⟨hcl,vo,vc,rfl,hv1,hv2,hv3⟩:=hvs
  unfold objV kO iO gO rO tO at *
  obtain ⟨N,hN⟩:∃ N,N=ps.length:=⟨_,rfl⟩
  have hlen:N≤1000000:=by have:=hkok.1;omega
  have HP:=Lib.hid hP
  have Hok:=Lib.hid hok
  have HS:=Lib.hid hS
  have HIs:=Lib.hid hIs
  have Hks:=Lib.hid hks0
  have Hkl:=Lib.hid hkl
  rw [hkl,←hN]
  rw [←hN] at hcl hv1 hv3
  have Hv3:=Lib.hid hv3
  have HN:=Lib.hid hN
  have Hcl:=Lib.hid hcl
  obtain ⟨q0,q1,q2,q3⟩:=alloc3 w (.cells #[.int .i64 8,.int .i64 0,.int .i64 0,.float .f64 0,.string (bs []),.slice ko N kc,.slice vo N vc] 26) Z30 (.cells #[.int .i64 7,.int .i64 0,.int .i64 0,.float .f64 0,.string ⟨#[]⟩,.slice ko N kc,.slice none 0 0] 30)
  have hGW:w.grownBy (((w.alloc (.cells #[.int .i64 8,.int .i64 0,.int .i64 0,.float .f64 0,.string (bs []),.slice ko N kc,.slice vo N vc] 26)).alloc Z30).alloc (.cells #[.int .i64 7,.int .i64 0,.int .i64 0,.float .f64 0,.string ⟨#[]⟩,.slice ko N kc,.slice none 0 0] 30)) none:=gr_alloc (gr_alloc (gr_alloc (World.grownBy.refl w none) _) _) _
  obtain ⟨W,hW⟩:∃ W,W=(((w.alloc (.cells #[.int .i64 8,.int .i64 0,.int .i64 0,.float .f64 0,.string (bs []),.slice ko N kc,.slice vo N vc] 26)).alloc Z30).alloc (.cells #[.int .i64 7,.int .i64 0,.int .i64 0,.float .f64 0,.string ⟨#[]⟩,.slice ko N kc,.slice none 0 0] 30)):=⟨_,rfl⟩
  rw [←hW] at q0 q1 q2 hGW
  clear hP hok hS hIs hv3 hN hcl q3 hks0 hkok hkl
  go_enter Tryz.func14,Tryz.ntmps14
  go_wp2_with fail
  unfold Z30 at hW
  rw [←hW]
  clear hW
  have hJ0:FpJ w W S 0 ps (7) (.slice ko N kc) none 0 0 [] (fun _=>False):=⟨q2,q1,World.ownsRow_nil _ _ _ _,by simp [IsVs],fun k hk=>hk.elim,hGW⟩
  have HJ0:=Lib.hid hJ0
  clear hJ0 q0 q1 q2 hGW
  go_loopg [37] N (fun g t37 wr=>∃ i so sn sc cells2 S2,t37=.int .i64 (i:Nat)∧g=N - i∧i≤N∧FpJ w wr S i ps (7) (.slice ko N kc) so sn sc cells2 S2)
  case atStart=>exact ⟨0,none,0,0,[],_,rfl,rfl,Nat.zero_le _,HJ0.out⟩
  case round =>
    clear HJ0
    obtain ⟨i,so,sn,sc,cells2,S2,rfl,hg,hi,hJ⟩:=hrel
    have HJ:=Lib.hid hJ
    have Hg:=Lib.hid hg
    obtain ⟨v0,v1,v2,v3,v4,v5,v6,vf⟩:=cells7 hJ.vcell
    obtain ⟨z0,z1,z2,z3,z4,z5,z6,zf⟩:=cells7 hJ.res
    clear hJ hg
    by_cases hiN:i < N
    · rcases Hv3.out with h0 | ⟨b0,i0,rfl,hSb,hcells⟩
      · omega
      obtain ⟨pi,hpi⟩:∃ p,ps[i]?=some p:=⟨_,List.getElem?_eq_getElem (by rw [←HN.out];exact hiN)⟩
      obtain ⟨ksi,vsi,hIi,hci⟩:=IsOs.get ps cells HIs.out i pi hpi
      obtain ⟨⟨kso,ksn,ksc,rfl⟩,⟨vso,vsn,vsc,rfl⟩⟩:=IsO.slices hIi
      have hblk:∀ k,S k→wr.heap[k]?=w.heap[k]?:=fun k hk=>HJ.out.grow.block k (HS.out k hk) (by simp)
      have hcc:∀ j u,(o7 pi (.slice kso ksn ksc) (.slice vso vsn vsc))[j]?=some u→wr.cell? ⟨b0,i0 + i * 7 + j,none⟩=some u:=fun j u hj=>by rw [Nat.add_assoc];exact (World.cell?_of_block (hblk b0 hSb)).trans (hcells _ u (hci j u hj))
      have e0:wr.cell? ⟨b0,i0 + i * 7,none⟩=_:=hcc 0 _ rfl
      have e1:=hcc 1 _ rfl
      have e2:=hcc 2 _ rfl
      have e3:=hcc 3 _ rfl
      have e4:=hcc 4 _ rfl
      have e5:=hcc 5 _ rfl
      have e6:=hcc 6 _ rfl
      have hcall:=fun (w2:World) (hg2:wr.grownBy w2 none)=>HP.out pi (List.mem_of_getElem? hpi) S w2 (.slice kso ksn ksc) (.slice vso vsn vsc) ((okPs_all ps).1 Hok.out pi (List.mem_of_getElem? hpi)) (IsO.keep (S':=S) (fun k hk=>⟨hk,(hg2.block k (Nat.lt_of_lt_of_le (HS.out k hk) HJ.out.grow.size) (by simp)).trans (hblk k hk)⟩) _ _ _ hIi) (fun k hk=>Nat.lt_of_lt_of_le (Nat.lt_of_lt_of_le (HS.out k hk) HJ.out.grow.size) hg2.size)
      have Hpi:=Lib.hid hpi
      have hnm:(i:Int) < N:=by omega
      have Hcall:=Lib.hid hcall
      clear hcall hcc hIi hci hpi hcells hblk
      unfold objV at Hcall
      generalize kO pi=k1 at *
      generalize iO pi=k2 at *
      generalize gO pi=k3 at *
      generalize rO pi=k4 at *
      generalize bs (tO pi)=k5 at *
      have HE:=Lib.hid (And.intro hnm e0)
      go_wp2_with fail
      obtain ⟨Wa,hWa⟩:∃ Wa,Wa=wr.alloc (.cells #[.int .i64 k1,.int .i64 k2,.int .i64 k3,.float .f64 k4,.string k5,.slice kso ksn ksc,.slice vso vsn vsc] 26):=⟨_,rfl⟩
      have hga:wr.grownBy Wa none:=by rw [hWa];exact gr_alloc (World.grownBy.refl _ _) _
      rw [←hWa]
      refine (Hcall.out Wa hga).mono ?_
      rintro e w2 ⟨ks3,vs3,S3,rfl,hI3,hS3,hg2⟩
      obtain ⟨⟨ko3,kn3,kc3,rfl⟩,⟨vo3,vn3,vc3,rfl⟩⟩:=IsV.slices hI3
      have hg2':=hga.trans hg2
      have hv2:=(hg2'.block _ (Array.getElem?_eq_some_iff.1 HJ.out.vcell).1 (by simp)).trans HJ.out.vcell
      have hz2:=(hg2'.block _ (Array.getElem?_eq_some_iff.1 HJ.out.res).1 (by simp)).trans HJ.out.res
      have Hrow2:=Lib.hid (row_keptB HJ.out.row hg2' (fun k hk=>by simp))
      have HI3:=Lib.hid hI3
      have HS3:=Lib.hid hS3
      have Hga:=Lib.hid hga.size
      have Hg2:=Lib.hid hg2'
      have Hv2:=Lib.hid hv2
      have Hz2:=Lib.hid hz2
      have Hw2:=Lib.hid (show w.heap.size + 3≤w2.heap.size by have:=(Array.getElem?_eq_some_iff.1 hv2).1;omega)
      clear v0 v1 v2 v3 v4 v5 v6 vf z0 z1 z2 z3 z4 z5 z6 zf e0 e1 e2 e3 e4 e5 e6
      obtain ⟨v0,v1,v2,v3,v4,v5,v6,vf⟩:=cells7 hv2
      obtain ⟨q,hq⟩:∃ q,q=valP pi:=⟨_,rfl⟩
      rw [←hq] at HI3 ⊢
      have Hq:=Lib.hid hq
      obtain ⟨ti,hti,htz0,htz1,htz2⟩:=info_parts Tryz.info30
      have hlt2:w.heap.size + 1 + 1 < w2.heap.size:=(Array.getElem?_eq_some_iff.1 hv2).1
      clear hWa hga hI3 hS3 hg2 hg2' hv2 hz2 hq
      unfold valOf
      go_wp2_with (first | (at_builtin;refine wpList_append_own_at _ rfl _ _ 28 rfl (w.heap.size + 3) 30 ti _ 7 96 Tryz.underlying28 hti htz0 htz1 htz2 rfl (by decide) _ _ _ rfl (World.ownsRow.alloc (World.ownsRow.alloc Hrow2.out _) _) ⟨w2.heap.size + 1,0,none⟩ 1 1 (c7 q (.slice ko3 kn3 kc3) (.slice vo3 vn3 vc3)) (by rfl) (by rfl) (World.news_of_block (alloc2 w2 w2.heap.size rfl _ _).2) (by simp [Value.oneCell',c7]) (by unfold maxLen;omega) (by omega) (by have:=Hw2.out;simp;omega) ?_))
      intro v7 w7 ho7 hg7 _ hat7
      have hshape:∃ gg cap,v7=.slice (some ⟨gg,0,none⟩) (i + 1) cap:=by
        rcases ho7.2 with ⟨_,h0⟩ | ⟨gg,cap,cur,h,_⟩
        · exact absurd h0 (by omega)
        · exact ⟨gg,cap,h⟩
      obtain ⟨gg,cap7,rfl⟩:=hshape
      have hwi:IntKind.i64.wrap ((i:Int) + 1)=(i:Int) + 1:=IntWalk.i64_in _ (by omega)
      have hg27:=gr_alloc_then (gr_alloc_then hg7)
      have hrl:=World.ownsRow.lt HJ.out.row
      have hv7:=(hg27.block _ (Array.getElem?_eq_some_iff.1 Hv2.out).1 (fun e=>by have:=hrl _ e.symm;omega)).trans Hv2.out
      have hz7:=(hg27.block _ (Array.getElem?_eq_some_iff.1 Hz2.out).1 (fun e=>by have:=hrl _ e.symm;omega)).trans Hz2.out
      obtain ⟨x0,x1,x2,x3,x4,x5,x6,xf⟩:=cells7 hv7
      have Hg7:=Lib.hid hg27
      have Ho7:=Lib.hid ho7
      have Hv7:=Lib.hid hv7
      have Hz7:=Lib.hid hz7
      have Hat7:=Lib.hid (show (Value.slice so sn sc).ownBlock=some gg∨w2.heap.size≤gg from by
        rcases hat7 with h | h
        · left;rw [←h];rfl
        · right;simp [Value.ownBlock] at h;omega)
      clear hg7 ho7 hat7 hg27 hv7 hz7 hrl v0 v1 v2 v3 v4 v5 v6 vf
      go_wp2_with fail
      go_roundg (N - (i + 1))
      case measure=>rw [Hg.out];omega
      case rel =>
        have hJ:=HJ.out
        have hrl:=World.ownsRow.lt hJ.row
        have hs2:=Hg2.out.size
        have hs7:=Hg7.out.size
        have hsa:=Hga.out
        have hw:=hJ.grow.size
        have hst:=gr_set (World.grownBy.refl w7 (some (w.heap.size + 1 + 1))) 6 (.slice (some ⟨gg,0,none⟩) (i + 1) cap7)
        have hsz:=hst.size
        have hrl7:=World.ownsRow.lt Ho7.out
        have hgg:=hrl7 gg rfl
        refine ⟨i + 1,_,_,_,_,fun k=>S2 k∨S3 k,by simp,rfl,by omega,⟨cells7_set6 Hv7.out _,(hst.block _ (Array.getElem?_eq_some_iff.1 Hz7.out).1 (by simp)).trans Hz7.out,row_keptB Ho7.out hst (fun k hk e=>by injection e with e;have:=hrl7 k hk;omega),?_,?_,?_⟩⟩
        · have htk:(valPs ps).take (i + 1)=(valPs ps).take i ++ [q]:=by
            rw [valPs_map,Hq.out,List.take_add_one,List.getElem?_map,Hpi.out]
            rfl
          rw [htk]
          refine IsVs.append (IsVs.one (IsV.keep (fun k hk=>⟨.inr hk,?_⟩) _ _ _ HI3.out)) _ _ (IsVs.keep (fun k hk=>⟨.inl hk,?_⟩) _ _ hJ.objs)
          · have h1:=HS3.out k hk
            have h2:k≠w.heap.size + 1 + 1:=by
              rcases h1.1 with h | h
              · have:=HS.out k h;omega
              · have:=(Array.getElem?_eq_some_iff.1 hJ.vcell).1;omega
            refine (hst.block k (by omega) (by simp;omega)).trans (Hg7.out.block k h1.2 (fun e=>?_))
            have h3:=hrl k e.symm
            rcases h1.1 with h | h
            · have:=HS.out k h;omega
            · omega
          · have h1:=hJ.bnd k hk
            have h2:k≠w.heap.size + 1 + 1:=by
              rcases h1.1 with h | h
              · have:=HS.out k h;omega
              · omega
            exact (hst.block k (by omega) (by simp;omega)).trans ((Hg7.out.block k (by omega) (fun e=>h1.2.2 e.symm)).trans (Hg2.out.block k h1.2.1 (by simp)))
        · intro k hk
          rcases hk with hk | hk
          · have h1:=hJ.bnd k hk
            refine ⟨h1.1,by omega,fun e=>?_⟩
            have e:gg=k:=by simpa [Value.ownBlock] using e
            rcases Hat7.out with h | h
            · exact h1.2.2 (h.trans (by rw [e]))
            · omega
          · have h1:=HS3.out k hk
            have hvl:=(Array.getElem?_eq_some_iff.1 hJ.vcell).1
            refine ⟨by rcases h1.1 with h | h;exact .inl h;exact .inr (by omega),by omega,fun e=>?_⟩
            have e:gg=k:=by simpa [Value.ownBlock] using e
            rcases Hat7.out with h | h
            · have h5:=hrl gg h
              rcases h1.1 with h4 | h4
              · have:=HS.out k h4;omega
              · omega
            · omega
        · exact gr_noneThen (gr_noneThen (hJ.grow.trans Hg2.out) Hg7.out (fun j hj=>by have:=hrl j hj;omega)) hst (fun j hj=>by injection hj with hj;omega)
    · obtain rfl:i=N:=by omega
      go_wp2_with fail
      refine fp_ret rfl rfl HJ.out.res ?_
      intro w' hk hsz hgr
      have hJ:=HJ.out
      have hrl:=World.ownsRow.lt hJ.row
      have hne:∀ k,(S2 k∨(Value.slice so sn sc).ownBlock=some k)→k≠w.heap.size + 1:=fun k hk=>by
        rcases hk with hk | hk
        · rcases (hJ.bnd k hk).1 with h | h
          · have:=HS.out k h;omega
          · omega
        · have:=hrl k hk;omega
      have hO:=IsVs.keep (S':=fun k=>S2 k∨(Value.slice so sn sc).ownBlock=some k) (w':=w') (fun k hk'=>⟨.inl hk',hk k (hne k (.inl hk'))⟩) _ _ hJ.objs
      rw [List.take_of_length_le (by rw [valPs_map];simp;have:=HN.out;omega)] at hO
      have hSl:=(SlAt.of_row hJ.row (fun k=>(Value.slice so sn sc).ownBlock=some k) (fun k hk=>hk)).keep (S':=fun k=>S2 k∨(Value.slice so sn sc).ownBlock=some k) (w':=w') (fun k hk'=>⟨.inr hk',hk k (hne k (.inr hk'))⟩)
      have hbnd:∀ k,(S2 k∨(Value.slice so sn sc).ownBlock=some k)→(S k∨w.heap.size≤k)∧k < w'.heap.size:=fun k hk=>by
        rw [hsz]
        rcases hk with hk | hk
        · have:=hJ.bnd k hk
          exact ⟨by rcases this.1 with h | h;exact .inl h;exact .inr (by omega),this.2.1⟩
        · have:=hrl k hk
          exact ⟨.inr (by omega),this.2⟩
      have hgw:=hgr _ _ hJ.grow (by omega)
      have hksw:=Hks.out.keep (S':=fun k=>(S2 k∨(Value.slice so sn sc).ownBlock=some k)∨S k) (w':=w') (fun k hk'=>⟨.inr hk',hgw.block k (HS.out k hk') (by simp)⟩)
      rw [Hkl.out,←HN.out] at hksw
      refine ⟨.slice ko i kc,.slice so sn sc,fun k=>(S2 k∨(Value.slice so sn sc).ownBlock=some k)∨S k,rfl,?_,fun k hk'=>?_,hgw⟩
      · simp only [valP,IsV]
        rw [Hkl.out,←HN.out]
        refine ⟨hksw,cells2,?_,IsVs.keep (fun k hk'=>⟨.inl hk',rfl⟩) _ _ hO⟩
        rw [valPs_map,List.length_map,←HN.out]
        exact hSl.keep (fun k hk'=>⟨.inl hk',rfl⟩)
      · rcases hk' with hk' | hk'
        · exact hbnd k hk'
        · exact ⟨.inl hk',Nat.lt_of_lt_of_le (HS.out k hk') hgw.size⟩
theorem fp_lens {S:Nat→Prop} {w:World} {p:PO} {ks vs:Value} (h:IsO S w p ks vs) (hp:match p with | .arr _=>False | .dict _ _=>False | _=>True):(tO p).length≤250000∧∃ ko kc vo vc,ks=.slice ko 0 kc∧vs=.slice vo 0 vc:=by
  cases p<;>first | exact hp.elim | (simp only [IsO] at h;obtain ⟨h0,⟨_,ko,kc,rfl,_⟩,⟨_,vo,vc,rfl,_⟩⟩:=h;exact ⟨h0,ko,kc,vo,vc,rfl,rfl⟩)
mutual
theorem fp_all:∀ p:PO,FP p
  | .arr ps=>fun S w ks vs hok hI hS=>fp_arr ps (fps_all ps) S w ks vs hok hI hS
  | .dict keys ps=>fun S w ks vs hok hI hS=>fp_dict keys ps (fps_all ps) S w ks vs hok.2 hI hS
  | .real x=>fun S w ks vs hok hI hS=>by
    obtain ⟨_,ko,kc,vo,vc,rfl,rfl⟩:=fp_lens hI trivial
    exact fp_real x ko vo kc vc S w
  | .null=>fun S w ks vs hok hI hS=>by
    obtain ⟨hl,ko,kc,vo,vc,rfl,rfl⟩:=fp_lens hI trivial
    exact fp_leaf .null ko vo kc vc S rfl rfl rfl trivial (fun w=>fo_leaf .null ko vo kc vc hl (fun w=>fr_null ko vo kc vc w) w) w
  | .bool true=>fun S w ks vs hok hI hS=>by
    obtain ⟨hl,ko,kc,vo,vc,rfl,rfl⟩:=fp_lens hI trivial
    exact fp_leaf _ ko vo kc vc S rfl rfl rfl trivial (fun w=>fo_leaf _ ko vo kc vc hl (fun w=>fr_btrue ko vo kc vc w) w) w
  | .bool false=>fun S w ks vs hok hI hS=>by
    obtain ⟨hl,ko,kc,vo,vc,rfl,rfl⟩:=fp_lens hI trivial
    exact fp_leaf _ ko vo kc vc S rfl rfl rfl trivial (fun w=>fo_leaf _ ko vo kc vc hl (fun w=>fr_bfalse ko vo kc vc w) w) w
  | .int n=>fun S w ks vs hok hI hS=>by
    obtain ⟨hl,ko,kc,vo,vc,rfl,rfl⟩:=fp_lens hI trivial
    simp only [okP] at hok
    exact fp_leaf _ ko vo kc vc S rfl rfl rfl trivial (fun w=>fo_leaf _ ko vo kc vc hl (fun w=>fr_int n (by omega) (by omega) ko vo kc vc w) w) w
  | .ref n g=>fun S w ks vs hok hI hS=>by
    obtain ⟨hl,ko,kc,vo,vc,rfl,rfl⟩:=fp_lens hI trivial
    simp only [okP] at hok
    exact fp_leaf _ ko vo kc vc S rfl rfl rfl trivial (fun w=>fo_leaf _ ko vo kc vc hl (fun w=>fr_ref n g (by omega) (by omega) (by omega) (by omega) ko vo kc vc w) w) w
  | .lit s=>fun S w ks vs hok hI hS=>by
    obtain ⟨hl,ko,kc,vo,vc,rfl,rfl⟩:=fp_lens hI trivial
    simp only [okP] at hok
    obtain ⟨t,ht⟩:=hok
    exact fp_leaf _ ko vo kc vc S rfl rfl rfl trivial (fun w=>fo_leaf _ ko vo kc vc hl (fun w=>fr_lit s t ht (by simp only [tO] at hl;omega) ko vo kc vc w) w) w
  | .hexl s=>fun S w ks vs hok hI hS=>by
    obtain ⟨hl,ko,kc,vo,vc,rfl,rfl⟩:=fp_lens hI trivial
    simp only [okP] at hok
    exact fp_leaf _ ko vo kc vc S rfl rfl rfl trivial (fun w=>fo_leaf _ ko vo kc vc hl (fun w=>fr_hexl s _ hok (hex_read hok []) (by simp only [tO] at hl;omega) ko vo kc vc w) w) w
  | .name s=>fun S w ks vs hok hI hS=>by
    obtain ⟨hl,ko,kc,vo,vc,rfl,rfl⟩:=fp_lens hI trivial
    simp only [okP] at hok
    exact fp_leaf _ ko vo kc vc S rfl rfl rfl trivial (fun w=>fo_leaf _ ko vo kc vc hl (fun w=>fr_name s hok (by simp only [tO] at hl;omega) ko vo kc vc w) w) w
theorem fps_all:∀ ps:List PO,∀ p∈ps,FP p
  | [],p,h=>by simp at h
  | q::ps,p,h=>by
    rcases List.mem_cons.1 h with e | e
    · rw [e];exact fp_all q
    · exact fps_all ps p e
end
end Go.Proofs.YtfkecmlmnhbmoaaGreatDoor
namespace Go.Proofs.YtfkecmlmnhbmoaaGreatDoor
open Go Go.RowKit
open Go.Maps
theorem bs_slice (p r:By):(bs (p ++ r)).extract p.length (bs (p ++ r)).size=bs r:=by
  rw [bs_size,bs_drop,List.drop_left]
set_option maxRecDepth 100000 in
set_option maxHeartbeats 40000000 in
theorem law4_any (pf:By→Nat) (W0 w:World) (ea eb:Addr) (ca cb:Array Value) (hI:InitQ W0 ea eb ca cb) (hpf:PFC pf W0) (hnn:∀ t,numOk t→nnF (pf t)) (hE:Env W0 w) (l:By) :
    Calls Tryz.prog 4 #[.string (bs l)] w fun e w'=>e=.returned (.bool true)∧w.grownBy w' none:=by
  have hsz:((bs l).size:Int)=(l.length:Nat):=by rw [bs_size]
  by_cases hbig:8192 < l.length
  · have h1:(8192:Int) < (bs l).size:=by omega
    generalize bs l=z at *
    clear hI hpf hnn hE hsz hbig
    by_cases h2:(2147483647:Int) < z.size
    all_goals
      go_enter Tryz.func4,Tryz.ntmps4
      go_wp2_with fail
      go_ret
      exact ⟨rfl,World.grownBy.refl _ _⟩
  · have hcl:=claimed_any pf W0 w hI.init hpf hE l (by omega)
    have h1:¬(8192:Int) < (bs l).size:=by omega
    have h2:¬(2147483647:Int) < (bs l).size:=by omega
    cases hrd:rdV pf 50 l false with
    | none =>
      rw [hrd] at hcl
      generalize bs l=z at *
      clear hI hpf hnn hE hsz hbig hrd
      go_enter Tryz.func4,Tryz.ntmps4
      go_wp2_with fail
      refine hcl.mono ?_
      rintro e w1 ⟨v,k,rfl,hk,⟨a1,a2,a3,a4,a5,o1,n1,c1,o2,n2,c2,rfl⟩,hg⟩
      have hkb:(k != 0)=true:=by simpa using hk
      have Hg:=Lib.hid hg
      clear hcl hk hg
      go_wp2_with fail
      go_ret
      exact ⟨rfl,Hg.out.trans (gr_alloc (World.grownBy.refl _ _) _)⟩
    | some q =>
      obtain ⟨x,r,o⟩:=q
      cases o with
      | true =>
        rw [hrd] at hcl
        generalize bs l=z at *
        clear hI hpf hnn hE hsz hbig hrd
        go_enter Tryz.func4,Tryz.ntmps4
        go_wp2_with fail
        refine hcl.mono ?_
        rintro e w1 ⟨v,k,rfl,hk,⟨a1,a2,a3,a4,a5,o1,n1,c1,o2,n2,c2,rfl⟩,hg⟩
        have hkb:(k != 0)=true:=by simpa using hk
        have Hg:=Lib.hid hg
        clear hcl hk hg
        go_wp2_with fail
        go_ret
        exact ⟨rfl,Hg.out.trans (gr_alloc (World.grownBy.refl _ _) _)⟩
      | false =>
        have hlv:=rdV_lv pf 50 _ _ _ _ _ hrd
        have hobj:=objC_all pf nnF hnn W0 ea eb ca cb hI hpf 50
        have hps:=fun (w2:World) (hg2:w.grownBy w2 none)=>parse13_any pf nnF W0 50 hobj (by omega) w2 (hE.grown0 hg2) l x r (by omega) hrd
        rw [hrd] at hcl
        obtain ⟨z,hz⟩:∃ z,z=bs l:=⟨_,rfl⟩
        rw [←hz] at hcl hps h1 h2 ⊢
        obtain ⟨zr,hzr⟩:∃ z,z=bs r:=⟨_,rfl⟩
        have Hps:=Lib.hid hps
        have Hz:=Lib.hid hz
        have Hlv:=Lib.hid hlv
        have Hzr:=Lib.hid hzr
        have Hll:=Lib.hid (show l.length≤8192 by omega)
        clear hps hobj hI hpf hnn hE hsz hbig hrd hz hlv hzr
        go_enter Tryz.func4,Tryz.ntmps4
        go_wp2_with fail
        refine hcl.mono ?_
        rintro e w1 ⟨ks,vs,S,p,rfl,hpr,hV1,hS1,hg1⟩
        obtain ⟨⟨ko,kn,kc,rfl⟩,⟨vo,vn,vc,rfl⟩⟩:=hV1.slices
        have Hpr:=Lib.hid hpr
        have HV1:=Lib.hid hV1
        have HS1:=Lib.hid hS1
        have Hg1:=Lib.hid hg1
        clear hcl hpr hV1 hS1 hg1
        unfold valOf
        obtain ⟨X,hX⟩:∃ X,X=x:=⟨_,rfl⟩
        have hpl:p.length≤z.size:=by rw [Hz.out,bs_size,Hpr.out];simp
        go_wp2_with fail
        obtain ⟨W1,hW1⟩:∃ W,W=w1.alloc (.cells #[.int .i64 (pvKind x),.int .i64 (pvInt x),.int .i64 (pvGen x),.float .f64 (pvReal x),.string ⟨(pvText x).toArray⟩,.slice ko kn kc,.slice vo vn vc] 30):=⟨_,rfl⟩
        have hgW:w1.grownBy W1 none:=by rw [hW1];exact gr_alloc (World.grownBy.refl _ _) _
        have hbx:W1.heap[w1.heap.size]?=some (.cells #[.int .i64 (pvKind x),.int .i64 (pvInt x),.int .i64 (pvGen x),.float .f64 (pvReal x),.string ⟨(pvText x).toArray⟩,.slice ko kn kc,.slice vo vn vc] 30 (0,0)):=by rw [hW1];exact heap_alloc_new w1 _
        rw [←hW1]
        clear hW1
        have hIw:=fun (w2:World) (hg2:W1.grownBy w2 none)=>IsV.keep (S':=S) (w':=w2) (fun k hk=>⟨hk,(hgW.trans hg2).block k (HS1.out k hk).2 (by simp)⟩) _ _ _ HV1.out
        have hSw:=fun (w2:World) (hg2:W1.grownBy w2 none) k (hk:S k)=>Nat.lt_of_lt_of_le (HS1.out k hk).2 (hgW.trans hg2).size
        have hmd:=modest_any x S W1 (.slice ko kn kc) (.slice vo vn vc) (by have:=Hlv.out;omega) (hIw W1 (World.grownBy.refl _ _)) (hSw W1 (World.grownBy.refl _ _))
        unfold valOf at hmd
        have Hmd:=Lib.hid hmd
        have HIw:=Lib.hid hIw
        have HSw:=Lib.hid hSw
        have Hbx:=Lib.hid hbx
        have HgW:=Lib.hid (Hg1.out.trans hgW)
        obtain ⟨x0,x1,x2,x3,x4,x5,x6,xf⟩:=cells7 hbx
        clear hmd hIw hSw hbx hgW
        go_wp2_with fail
        refine Hmd.out.mono ?_
        rintro e w2 ⟨⟨b,rfl,_⟩,hg2⟩
        cases b
        · go_wp2_with fail
          go_ret
          exact ⟨rfl,HgW.out.trans hg2⟩
        · have Hg2:=Lib.hid hg2
          clear hg2 x0 x1 x2 x3 x4 x5 x6 xf
          go_wp2_with fail
          refine (Hps.out w2 (HgW.out.trans Hg2.out)).mono ?_
          rintro e w3 ⟨po,lks,lvs,S3,rfl,hO3,hS3,hC,hg3⟩
          obtain ⟨⟨lko,lkn,lkc,rfl⟩,⟨lvo,lvn,lvc,rfl⟩⟩:=hO3.slices
          rw [←Hzr.out]
          have hok:=okP_sort po (Corr.ok 50 po x hC)
          have hsm:=Corr.same (eqv:=eqvF) (fun _ h=>h) 50 po x hC
          obtain ⟨q,hq⟩:∃ q,q=sortP po:=⟨_,rfl⟩
          rw [←hq] at hO3 hok hsm ⊢
          have hO4:=fun (w4:World) (hg4:w3.grownBy w4 none)=>fp_all q S3 w4 (.slice lko lkn lkc) (.slice lvo lvn lvc) hok (IsO.keep (S':=S3) (fun k hk=>⟨hk,hg4.block k (hS3 k hk).2 (by simp)⟩) _ _ _ hO3) (fun k hk=>Nat.lt_of_lt_of_le (hS3 k hk).2 hg4.size)
          have HO4:=Lib.hid hO4
          have Hsm:=Lib.hid hsm
          have Hg3:=Lib.hid (Hg2.out.trans hg3)
          clear hO3 hS3 hC hg3 hO4 hok hsm hq
          unfold objV at HO4 ⊢
          generalize kO q=q1 at *
          generalize iO q=q2 at *
          generalize gO q=q3 at *
          generalize rO q=q4 at *
          generalize bs (tO q)=q5 at *
          go_wp2_with fail
          refine (HO4.out _ (gr_alloc (World.grownBy.refl _ _) _)).mono ?_
          rintro e w4 ⟨mks,mvs,S4,rfl,hV4,hS4,hg4⟩
          obtain ⟨⟨mko,mkn,mkc,rfl⟩,⟨mvo,mvn,mvc,rfl⟩⟩:=hV4.slices
          obtain ⟨y,hy⟩:∃ y,y=valP q:=⟨_,rfl⟩
          have HsmY:=Lib.hid Hsm.out
          rw [←hy] at hV4 HsmY ⊢
          have hg4':=Hg3.out.trans ((gr_alloc (World.grownBy.refl w3 none) _).trans hg4)
          unfold valOf
          have HV4:=Lib.hid hV4
          have HS4:=Lib.hid hS4
          have Hg4:=Lib.hid hg4'
          have Hg34:=Lib.hid hg4
          clear hy hV4 hS4 hg4 hg4' Hsm HO4
          go_upto_region 10 with (fail)
          obtain ⟨W5,hW5⟩:∃ W,W=w4.alloc (.cells #[.int .i64 (pvKind y),.int .i64 (pvInt y),.int .i64 (pvGen y),.float .f64 (pvReal y),.string ⟨(pvText y).toArray⟩,.slice mko mkn mkc,.slice mvo mvn mvc] 30):=⟨_,rfl⟩
          have hg5:w4.grownBy W5 none:=by rw [hW5];exact gr_alloc (World.grownBy.refl _ _) _
          have hb5:W5.heap[w4.heap.size]?=some (.cells #[.int .i64 (pvKind y),.int .i64 (pvInt y),.int .i64 (pvGen y),.float .f64 (pvReal y),.string ⟨(pvText y).toArray⟩,.slice mko mkn mkc,.slice mvo mvn mvc] 30 (0,0)):=by rw [hW5];exact heap_alloc_new w4 _
          rw [←hW5]
          clear hW5
          have hg5':=Hg4.out.trans hg5
          have hbx:=(hg5'.block _ (Array.getElem?_eq_some_iff.1 Hbx.out).1 (by simp)).trans Hbx.out
          obtain ⟨x0,x1,x2,x3,x4,x5,x6,xf⟩:=cells7 hbx
          obtain ⟨y0,y1,y2,y3,y4,y5,y6,yf⟩:=cells7 hb5
          have hcall:=sameC_all 50 y x (fun k=>S4 k∨S k) W5 (.slice mko mkn mkc) (.slice mvo mvn mvc) (.slice ko kn kc) (.slice vo vn vc) HsmY.out (IsV.keep (fun k hk=>⟨.inl hk,hg5.block k (HS4.out k hk).2 (by simp)⟩) _ _ _ HV4.out) (IsV.keep (fun k hk=>⟨.inr hk,rfl⟩) _ _ _ (HIw.out W5 hg5')) (fun k hk=>by
            rcases hk with hk | hk
            · exact Nat.lt_of_lt_of_le (HS4.out k hk).2 hg5.size
            · exact HSw.out W5 hg5' k hk)
          unfold valOf at hcall
          have hex:z.extract p.length z.size=zr:=by rw [Hz.out,Hzr.out,Hpr.out];exact bs_slice p r
          have Hcall:=Lib.hid hcall
          have Hg5:=Lib.hid (HgW.out.trans hg5')
          clear hcall hbx hb5 hg5 hg5'
          generalize pvKind x=p1 at *
          generalize pvInt x=p2 at *
          generalize pvGen x=p3 at *
          generalize pvReal x=p4 at *
          generalize (⟨(pvText x).toArray⟩:ByteArray)=p5 at *
          generalize pvKind y=d1 at *
          generalize pvInt y=d2 at *
          generalize pvGen y=d3 at *
          generalize pvReal y=d4 at *
          generalize (⟨(pvText y).toArray⟩:ByteArray)=d5 at *
          go_wp2_with fail
          refine Hcall.out.mono ?_
          rintro e w6 ⟨rfl,hg6⟩
          have Hg6:=Lib.hid hg6
          clear hg6
          go_wp2_with fail
          go_ret
          exact ⟨rfl,Hg5.out.trans Hg6.out⟩
end Go.Proofs.YtfkecmlmnhbmoaaGreatDoor
namespace Go.Proofs.YtfkecmlmnhbmoaaGreatDoor
open Go Go.RowKit
open Go.Lib Go.ChangeShapes Go.WideShapes Go.ChangeAt Go.ChangeMaps
theorem below_of {w w':World} (h:w.grownBy w' Option.none):Below w.heap.size w w':=⟨h.os,h.tape,h.output,h.size,fun k hk=>h.block k hk (by simp)⟩
section
variable {H:Type} {enc:TypeId × Value→H} {P:Program}
theorem trodVars_len {w:World} {sp:Nat→Bool} : ∀ {ns:List String} {gs:List (DataW H)} {ps:List MemPlace},DataW.TrodVars enc P w sp ns gs ps→gs.length=ns.length
  | [],[],_,_=>rfl
  | [],_::_,_,h=>h.elim
  | _::_,[],_,h=>h.elim
  | n::ns,d::ds,ps,h=>by
    obtain ⟨_,_,_,_,_,q,_,_,_,_,hs,_⟩:=h
    simp [trodVars_len hs]
theorem trodVars_keep (hl:laidOutB P=true) {W W':World} (hb:Below W.heap.size W W') (sp:Nat→Bool) :
    ∀ {ns:List String} {gs:List (DataW H)} {ps:List MemPlace},varsRowed P ns=true→(∀ x∈ps,sp x.block=true)→DataW.TrodVars enc P W (fun _=>true) ns gs ps→DataW.TrodVars enc P W' sp ns gs ps
  | [],[],_,_,_,h=>h
  | [],_::_,_,_,_,h=>h.elim
  | _::_,[],_,_,_,h=>h.elim
  | n :: ns, d :: ds, ps, hv, hsp, h => by
    have hlt:=h.lt
    obtain ⟨g,t,cs,fuel,p,q,h1,h2,h3,h4,hs,e⟩:=h
    simp only [varsRowed,List.all_cons,Bool.and_eq_true] at hv
    have ht:P.readableRec t=true∧t < P.types.size:=by
      have:=hv.1
      rw [h1] at this
      cases hg:P.globals[g]? with
      | none=>rw [hg] at h2;cases h2
      | some gl =>
        rw [hg] at h2
        obtain rfl:gl.type=t:=Option.some.inj h2
        simpa [hg] using this
    have hp:∀ x∈p,x.block < W.heap.size:=fun x hx=>hlt x (by rw [e];simp [hx])
    have hp2:∀ x∈p,sp x.block=true:=fun x hx=>hsp x (by rw [e];simp [hx])
    have hq2:∀ x∈q,sp x.block=true:=fun x hx=>hsp x (by rw [e];simp [hx])
    have h3':W'.var? P n=some cs:=by
      unfold World.var? at h3 ⊢
      rw [h1] at h3 ⊢
      simp only [Option.bind_some] at h3 ⊢
      have hg:g < W.heap.size:=by
        cases hh:W.heap[g]? with
        | none=>rw [hh] at h3;cases h3
        | some o=>exact (Array.getElem?_eq_some_iff.1 hh).1
      rw [hb.block g hg];exact h3
    exact ⟨g,t,cs,fuel,p,q,h1,h2,h3',DataW.trod_stays (kids_book hl ht.1) (book_sized ht.1) (fun h=>by cases h) ⟨ht.2,book_self t⟩ h4 (fun x hx=>hb.same (hp x hx)) hp2,
      trodVars_keep hl hb sp (by simpa [varsRowed] using hv.2) hq2 hs,e⟩
theorem post_same {f:Func} {s:ChangeSpec} {apart fresh handsOn again:Bool} {W W':World} {args:Array Value} {v:Value} {ds gs:List (DataW H)} {before pa pv:List MemPlace} (hb:Below W.heap.size W W')
    (hW:DataW.Whole enc P f.params.toList s.vars apart W args.toList ds gs before)
    (hres:∀ (b:Nat) (sp:Nat→Bool) (hd:Bool),DataW.TrodAll enc P W' b sp hd f.resultTypes.toList (v.resultList f.resultTypes.size) (s.fn H (ds ++ gs)).results [])
    (hargs:∀ sp:Nat→Bool,(∀ p∈before,sp p.block=true)→DataW.TrodAll enc P W' 0 sp true f.params.toList args.toList (s.fn H (ds ++ gs)).args pa)
    (hvars:∀ sp:Nat→Bool,(∀ p∈before,sp p.block=true)→DataW.TrodVars enc P W' sp s.vars (s.fn H (ds ++ gs)).vars pv)
    (hps:before=pa ++ pv)
    (hok:∀ (j:Nat) (t:TypeId) (r:Value),f.resultTypes[j]?=some t→(v.resultList f.resultTypes.size)[j]?=some r→Value.okWide P W' .any 0 t r) :
    s.post enc P f apart fresh handsOn again W args v W':=by
  have hold:∀ p∈before,(fun b=>decide (b < W.heap.size)) p.block=true:=fun p hp=>by simpa using hW.lt p hp
  refine ⟨ds,gs,before,[],pa,pv,hW,hres _ _ _,hargs _ hold,hvars _ hold,hb.frame _,fun _=>?_⟩
  have hlt:=hW.lt
  obtain ⟨_,_,_,_,_,hz,hn⟩:=hW
  refine ⟨hok,_,_,([] ++ pa) ++ pv,⟨[] ++ pa,pv,trodAll_append (hargs _ (fun _ _=>rfl)) (hres _ _ _),hvars _ (fun _ _=>rfl),rfl,?_,?_⟩,?_⟩
  · intro b off hp
    have hp':MemPlace.cell b off∈before:=by rw [hps];simpa using hp
    have h1:=hz b off hp'
    have h2:=hb.block b (hlt _ hp')
    unfold World.frozen? at h1 ⊢
    simp only [h2]
    exact h1
  · intro ha
    have:=hn ha
    rw [hps] at this
    simpa using this
  · intro p hp _
    rw [hps]
    simpa using hp
end
theorem hexerr_of {W:World} (h:VarReads Tryz.prog W "encoding/hex.ErrLength" Rows.laid_encoding_hex_ErrLength):∃ ev,W.cell? ⟨23,0,Option.none⟩=some ev:=by
  obtain ⟨g,t,cs,fuel,p,hg,hty,hvar,hd⟩:=h
  obtain rfl:=Option.some.inj ((show Tryz.prog.globalNamed "encoding/hex.ErrLength" = some 23 by kernel_rfl).symm.trans hg)
  obtain rfl:=Option.some.inj ((show (Tryz.prog.globals[23]?).map (·.type)=some 92 by kernel_rfl).symm.trans hty)
  obtain ⟨f,u,v,hcs,_⟩:=iface_of_trod Tryz.underlying92 hd
  exact ⟨.iface u v,by rw [World.var?_cell hg hvar 0,←Array.getElem?_toList,hcs];rfl⟩
set_option maxRecDepth 100000 in
theorem initq_parse {W:World} (h:laidMet Tryz.prog Rows.fnParseRow.laid W):FInit3 W∧∃ a b ca cb,InitQ W a b ca cb:=by
  have hm:∀ (i:Nat) n d,Rows.fnParseRow.laid[i]?=some (n,d)→VarReads Tryz.prog W n d:=fun i n d hi=>Go.Lib.laidMet.reads h (List.mem_of_getElem? hi)
  refine ⟨finit_of (hm 4 _ _ rfl) (hm 3 _ _ rfl) (hm 5 _ _ rfl) (hm 6 _ _ rfl) (hm 25 _ _ rfl) (hm 26 _ _ rfl),?_⟩
  obtain ⟨a,b,ca,cb,hab⟩:=errs_of (l1:=Rows.fnParseRow.laid.take 10) (l2:=Rows.fnParseRow.laid.drop 12) h
  exact ⟨a,b,ca,cb,{ init:=⟨⟨_,_,hab.syn⟩,⟨_,_,hab.ran⟩⟩,tabs:=tabs_of (hm 27 _ _ rfl) (hm 9 _ _ rfl),hexErr:=hexerr_of (hm 12 _ _ rfl),ab:=hab }⟩
set_option maxRecDepth 100000 in
theorem contract4 (H:Type) (enc:TypeId × Value→H) (W:World) (base:Nat) (args:Array Value) (ds gs:List (DataW H)) (before:List MemPlace)
    (hval:∀ (j:Nat) t v,Tryz.f4.params[j]?=some t→args[j]?=some v→Value.okWide Tryz.prog W .any base t v)
    (hW:DataW.Whole enc Tryz.prog Tryz.f4.params.toList Rows.fnParseSpec.vars false W args.toList ds gs before) (hL:laidMetH Tryz.prog Rows.fnParseRow.laid W) :
    Calls Tryz.prog 4 args W fun e W'=>∃ v,e=.returned v∧Rows.fnParseSpec.post enc Tryz.prog Tryz.f4 false true false false W args v W':=by
  have hL':laidMet Tryz.prog Rows.fnParseRow.laid W:=hL
  obtain ⟨hF,ea,eb,ca,cb,hQ⟩:=initq_parse hL'
  obtain ⟨pf,hpf,hnn⟩:=PFC_ex W hF
  have hW':=hW
  obtain ⟨p,q,hA0,hV,hpq,hfz,hnd⟩:=hW
  have hA:DataW.TrodAll enc Tryz.prog W 0 (fun _=>true) true Tryz.f4.params.toList args.toList ds p:=hA0
  rw [Tryz.params4] at hA hval
  obtain ⟨v0,vs0,d0,ds0,p0,q0,hargs,rfl,rfl,h0,r0⟩:=trodAll_cons hA
  obtain ⟨rfl,rfl,rfl⟩:=trodAll_nil r0
  obtain rfl:args=#[v0]:=by cases args;simp_all
  obtain ⟨s,rfl,rfl,rfl,hs⟩:=open_string Tryz.underlying9 (hval 0 9 v0 rfl rfl) h0
  clear hA0
  have hlen:=trodVars_len hV
  have walk:=law4_any pf W W ea eb ca cb hQ hpf hnn (Env.refl W) s.data.toList
  rw [←bs_of] at walk
  refine walk.mono fun e W' ⟨he,hg⟩=>?_
  subst he
  have hb:=below_of hg
  match gs,hlen with
  | [g1,g2,g3,g4,g5,g6,g7,g8,g9,g10,g11,g12],_ =>
    exact ⟨_,rfl,post_same (pa:=[]) (pv:=q) hb hW' (fun _ _ _=>trodAll_cons_mk (shut_bool Tryz.underlying4 _) trodAll_mk0) (fun _ _=>trodAll_cons_mk (shut_string Tryz.underlying9 hs) trodAll_mk0)
      (fun sp hsp=>trodVars_keep (by kernel_rfl) hb sp (by kernel_rfl) (fun x hx=>hsp x (by rw [hpq];simp [hx])) hV) (by simpa using hpq)
      (ok_one (by kernel_rfl) rfl (okWide_bool_mk Tryz.underlying4 _))⟩
end Go.Proofs.YtfkecmlmnhbmoaaGreatDoor
