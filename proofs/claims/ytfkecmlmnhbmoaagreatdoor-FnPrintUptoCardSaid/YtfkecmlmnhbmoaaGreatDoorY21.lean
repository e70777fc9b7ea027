/- The texts F14a G6 B7 of the workbench, laid together. -/
import Derived.Test.YtfkecmlmnhbmoaaGreatDoorProg
import Derived.WalkKit
import Derived.WalkLawsBesides
import Derived.WalkSpells
import Derived.BigQuiet
import Derived.BigRegion
import Derived.Deep.QuietTactic
import Derived.Deep.RegionHeld3
import Derived.Deep.LoopGhost
import Derived.StillTailTactics
import Derived.Lib.Hide
import Derived.Laws.EntriesVeiled
import Derived.Lib.Builder
import Derived.Lib.AppendStr
import Derived.Laws.Externs
import Derived.Test.YtfkecmlmnhbmoaaGreatDoorY17
import Derived.Test.YtfkecmlmnhbmoaaGreatDoorY19
import Derived.Test.YtfkecmlmnhbmoaaGreatDoorY20
set_option linter.unusedVariables false
set_option linter.unusedSimpArgs false
namespace Go.Proofs.YtfkecmlmnhbmoaaGreatDoor
open Go Go.RowKit
set_option maxRecDepth 100000 in
set_option maxHeartbeats 40000000 in
theorem set_a (w:World) (b:Nat) (A:By) (s:ByteArray) (c:UInt8) (l1:By) (d a:Int) (hD:DecAt w b A 0 0 false false) (hs:s.data.toList=[] ++ c::l1) (hsc:numScan (c::l1) 0 0 0=some (d,1,a)) (hd1:1≤d) (hd2:d≤60) (ha:a≤14) (hs2:s.size≤1000) :
  Calls Tryz.prog 149 #[.pointer (some ⟨b,0,none⟩),.string s] w fun e w'=>e=.returned (.bool true)∧DecN w' b (stF (c::l1) 0 0).1 (stF (c::l1) 0 0).2 false false∧w.grownBy w' (some b):=by
 generalize hR:stF (c::l1) 0 0=R
 have HR:=Lib.hid hR;clear hR
 obtain ⟨hc1,hc2⟩:=scan_dig hsc
 have Hsc:=Lib.hid hsc;clear hsc
 obtain ⟨c0,c1,c2,c3,cf⟩:=hD.cells
 have HD:=Lib.hid hD;clear hD
 obtain ⟨hlt,hcc,hd,hc0,_⟩:=at_byte (pre:=[]) (by simpa using hs)
 simp only [List.length_nil] at hlt hcc hd
 have b1:((c.toNat:Int) == 43)=false:=by simp;omega
 have b2:((c.toNat:Int) == 45)=false:=by simp;omega
 have h1:¬s=ByteArray.empty:=by intro e;rw [e] at hlt;exact absurd hlt (by decide)
 have Hs:=Lib.hid hs;clear hs
 go_enter Tryz.func149,Tryz.ntmps149
 go_wp2_with fail
 have Hl0:=Lib.hid (show (c::l1).length=(c::l1).length from rfl)
 go_loopg [5,6,7] ((c::l1).length) (fun g t5 t6 t7 wr=>∃ (q l':By) (N:Nat) (dp d' p' a':Int) (sd sg:Bool),g=l'.length∧t5=.int .i64 (([] ++ q:By).length:Nat)∧t6=.bool sd∧t7=.bool sg∧sd=(p' == 1)∧sg=decide (0 < d') ∧
  s.data.toList=([] ++ q) ++ l'∧numScan l' d' p' a'=some (d,1,a)∧stF l' N dp=R∧(numD N:Nat)≤d'∧-d'≤dp∧dp≤d'∧0≤p'∧DecN wr b N dp false false∧w.grownBy wr (some b))
 case atStart=>exact ⟨[],c::l1,0,0,0,0,0,false,false,Hl0.out,rfl,rfl,rfl,by simp,by simp,by simpa using Hs.out,Hsc.out,HR.out,by rw [numD_zero];simp,by omega,by omega,by omega,DecN.zero ((HD.out.setNeg false).setTr false),(by repeat (first | with_reducible exact World.grownBy.refl w (some b) | with_reducible apply gr_alloc | with_reducible apply gr_drewN | with_reducible apply gr_drew | with_reducible apply gr_set | ((with_reducible refine gr_setM ?_ ?_ _ _);rotate_left;(first | omega | (simp;omega)))))⟩
 case round =>
  clear Hl0 c0 c1 c2 c3 cf
  obtain ⟨q,l',N,dp,d',p',a',sd,sg,hg,rfl,rfl,rfl,hsd,hsg,hsl,hsc',hst,hnd,hdp1,hdp2,hp0,hD,hG⟩:=hrel
  have hsm:=scan_mono _ _ _ _ _ _ _ hsc'
  obtain ⟨c0,c1,c2,c3,cf⟩:=hD.cells
  obtain ⟨pq,hpq⟩:∃ pq,pq=[] ++ q:=⟨_,rfl⟩
  rw [←hpq] at hsl ⊢
  obtain ⟨nd,hndd⟩:∃ nd,nd=numD N:=⟨_,rfl⟩
  rw [←hndd] at c0 hnd
  have hndb:nd≤60:=by omega
  have hdpb1:-60≤dp:=by omega
  have hdpb2:dp≤60:=by omega
  have Hpq:=Lib.hid hpq;clear hpq
  have Hnd:=Lib.hid hndd;clear hndd
  have Hg:=Lib.hid hg;clear hg
  have Hst:=Lib.hid hst;clear hst
  have Hsc':=Lib.hid hsc';clear hsc'
  have HG:=Lib.hid hG;clear hG
  cases l' with
  | nil =>
   have hlt9:¬pq.length < s.size:=by have:=congrArg List.length hsl;simp at this;omega
   have hpqs:((pq.length:Int) != (s.size:Int))=false:=by have:=congrArg List.length hsl;simp at this ⊢;omega
   have hend:d'=d∧p'=1:=by have:=Hsc'.out;simp [numScan] at this;omega
   obtain rfl:sd=true:=by rw [hsd];simp;omega
   obtain rfl:sg=true:=by rw [hsg];simp;omega
   have Hsl:=Lib.hid hsl;clear hsl
   have HD2:=Lib.hid hD;clear hD
   clear hsd hsg hsm hend
   go_wp2_with fail
   go_ret
   have e:R=(N,dp):=by rw [←Hst.out];rfl
   rw [e]
   exact ⟨rfl,HD2.out,HG.out⟩
  | cons c3' l3 =>
   obtain ⟨hlt3,hc3,hd3,hr3,hr4⟩:=at_byte hsl
   have Hsl:=Lib.hid hsl;clear hsl
   have h95:((c3'.toNat:Int) == 95)=false:=by have:=scan_dig Hsc'.out;simp;omega
   rcases scan_cons Hsc'.out with ⟨hz1,hz2,hz3⟩ | ⟨hz1,hz3⟩
   ·have h46:((c3'.toNat:Int) == 46)=false:=by simp;omega
    have hm2:=scan_mono _ _ _ _ _ _ _ hz3
    have Hz3:=Lib.hid hz3;clear hz3
    have Hsd:=Lib.hid hsd;clear hsd
    clear hsg hsm
    have hdd:0≤d':=by omega
    have Hcn:=Lib.hid (show ¬c3'.toNat=46 by omega)
    have hNz:nd=0↔N=0:=by
     have:=Hnd.out
     constructor
     ·intro e;by_cases h0:N=0
      ·exact h0
      ·have:=numD_pos1 h0;omega
     ·intro e;rw [this,e,numD_zero]
    by_cases h48:c3'.toNat=48
    ·have hb48:((c3'.toNat:Int) == 48)=true:=by simp;omega
     have H48:=Lib.hid h48
     clear h48
     by_cases hn0:nd=0
     ·have hbn:((nd:Int) == 0)=true:=by simp;omega
      have HN0:=Lib.hid (hNz.1 hn0)
      have Hn0:=Lib.hid hn0
      clear hn0 hNz
      have HD2:=Lib.hid hD;clear hD
      go_wp2_with fail
      go_roundg l3.length
      case measure=>rw [Hg.out];simp
      case rel =>
       refine ⟨q ++ [c3'],l3,N,dp - 1,d' + 1,p',_,sd,true,rfl,by rw [←List.append_assoc,←Hpq.out];simp,rfl,rfl,Hsd.out,by simp;omega,by rw [←List.append_assoc,←Hpq.out,Hsl.out];simp,Hz3.out,?_,by rw [←Hnd.out];omega,by omega,by omega,hp0,HD2.out.setDp _,(by repeat (first | with_reducible exact HG.out | with_reducible apply gr_alloc | with_reducible apply gr_drewN | with_reducible apply gr_drew | with_reducible apply gr_set | ((with_reducible refine gr_setM ?_ ?_ _ _);rotate_left;(first | omega | (simp;omega)))))⟩
       rw [←Hst.out];simp only [stF];rw [if_neg Hcn.out,if_pos ⟨H48.out,HN0.out⟩]
     ·have hbn:((nd:Int) == 0)=false:=by simp;omega
      have HNz:=Lib.hid (show ¬(c3'.toNat=48∧N=0) from fun x=>hn0 (hNz.2 x.2))
      clear hn0 hNz
      obtain ⟨c9,hc9,cw⟩:∃ c9:UInt8,True∧wr.cell? ⟨b,nd,none⟩=some (.int .u8 (c9.toNat:Int)):=by
       obtain ⟨_,A9,hA9,_,_⟩:=hD
       obtain ⟨c9,_,cw⟩:=hA9.digE (i:=nd) (by omega)
       exact ⟨c9,trivial,cw⟩
      clear hc9
      have HD2:=Lib.hid hD;clear hD
      go_wp2_with fail
      (refine wp_region_quiet_tail 11 (by kernel_rfl) (by kernel_rfl) ?_;simp only [List.take_succ_cons,List.take_zero,List.drop_succ_cons,List.drop_zero];(repeat (go_big_quiet_step ((first|(go_at_call 42;with_reducible first|exact qaw _|exact qbw _)|(go_at_call 43;with_reducible first|exact qap _|exact qbp _)|(go_at_call 52;with_reducible first|exact qad _|exact qbd _)|(go_at_call 76;with_reducible first|exact qar _|exact qbr _)|(go_at_call 75;with_reducible first|exact qag _|exact qbg _)))));refine wpQuiet_nil ?_;intro _ hwt;obtain ⟨nt,hwt'⟩:=hwt;subst hwt';go_wp2_with fail)
      go_roundg l3.length
      case measure=>rw [Hg.out];simp
      case rel =>
       have h9:=(HD2.out.drewN nt).digit hz1 hz2 HNz.out (by rw [←Hnd.out];omega)
       rw [←Hnd.out] at h9
       have hdn:=numD_dig (N:=N) (d:=c3'.toNat - 48) (by omega) (fun x=>HNz.out ⟨by omega,x.2⟩)
       refine ⟨q ++ [c3'],l3,_,dp,d' + 1,p',_,sd,true,rfl,by rw [←List.append_assoc,←Hpq.out];simp,rfl,rfl,Hsd.out,by simp;omega,by rw [←List.append_assoc,←Hpq.out,Hsl.out];simp,Hz3.out,?_,by rw [hdn,←Hnd.out];omega,by omega,by omega,hp0,h9,(by repeat (first | with_reducible exact HG.out | with_reducible apply gr_alloc | with_reducible apply gr_drewN | with_reducible apply gr_drew | with_reducible apply gr_set | ((with_reducible refine gr_setM ?_ ?_ _ _);rotate_left;(first | omega | (simp;omega)))))⟩
       rw [←Hst.out];simp only [stF];rw [if_neg Hcn.out,if_neg HNz.out]
    ·have hb48:((c3'.toNat:Int) == 48)=false:=by simp;omega
     have HNz:=Lib.hid (show ¬(c3'.toNat=48∧N=0) from fun x=>h48 x.1)
     clear h48 hNz
     obtain ⟨c9,hc9,cw⟩:∃ c9:UInt8,True∧wr.cell? ⟨b,nd,none⟩=some (.int .u8 (c9.toNat:Int)):=by
      obtain ⟨_,A9,hA9,_,_⟩:=hD
      obtain ⟨c9,_,cw⟩:=hA9.digE (i:=nd) (by omega)
      exact ⟨c9,trivial,cw⟩
     clear hc9
     have HD2:=Lib.hid hD;clear hD
     go_wp2_with fail
     (refine wp_region_quiet_tail 11 (by kernel_rfl) (by kernel_rfl) ?_;simp only [List.take_succ_cons,List.take_zero,List.drop_succ_cons,List.drop_zero];(repeat (go_big_quiet_step ((first|(go_at_call 42;with_reducible first|exact qaw _|exact qbw _)|(go_at_call 43;with_reducible first|exact qap _|exact qbp _)|(go_at_call 52;with_reducible first|exact qad _|exact qbd _)|(go_at_call 76;with_reducible first|exact qar _|exact qbr _)|(go_at_call 75;with_reducible first|exact qag _|exact qbg _)))));refine wpQuiet_nil ?_;intro _ hwt;obtain ⟨nt,hwt'⟩:=hwt;subst hwt';go_wp2_with fail)
     go_roundg l3.length
     case measure=>rw [Hg.out];simp
     case rel =>
      have h9:=(HD2.out.drewN nt).digit hz1 hz2 HNz.out (by rw [←Hnd.out];omega)
      rw [←Hnd.out] at h9
      have hdn:=numD_dig (N:=N) (d:=c3'.toNat - 48) (by omega) (fun x=>HNz.out ⟨by omega,x.2⟩)
      refine ⟨q ++ [c3'],l3,_,dp,d' + 1,p',_,sd,true,rfl,by rw [←List.append_assoc,←Hpq.out];simp,rfl,rfl,Hsd.out,by simp;omega,by rw [←List.append_assoc,←Hpq.out,Hsl.out];simp,Hz3.out,?_,by rw [hdn,←Hnd.out];omega,by omega,by omega,hp0,h9,(by repeat (first | with_reducible exact HG.out | with_reducible apply gr_alloc | with_reducible apply gr_drewN | with_reducible apply gr_drew | with_reducible apply gr_set | ((with_reducible refine gr_setM ?_ ?_ _ _);rotate_left;(first | omega | (simp;omega)))))⟩
      rw [←Hst.out];simp only [stF];rw [if_neg Hcn.out,if_neg HNz.out]
   ·have h46:((c3'.toNat:Int) == 46)=true:=by simp;omega
    have hp1:=scan_mono _ _ _ _ _ _ _ hz3
    obtain rfl:sd=false:=by rw [hsd];simp;omega
    have Hz3:=Lib.hid hz3;clear hz3
    have Hsg:=Lib.hid hsg;clear hsg
    have HZ1:=Lib.hid hz1
    clear hsd hsm hz1
    have hp9:p'=0:=by omega
    have Hp9:=Lib.hid hp9
    clear hp1 hp9
    have HD2:=Lib.hid hD;clear hD
    go_wp2_with fail
    go_roundg l3.length
    case measure=>rw [Hg.out];simp
    case rel=>exact ⟨q ++ [c3'],l3,N,nd,d',p' + 1,a',true,sg,rfl,by rw [←List.append_assoc,←Hpq.out];simp,rfl,rfl,by rw [Hp9.out];rfl,Hsg.out,by rw [←List.append_assoc,←Hpq.out,Hsl.out];simp,Hz3.out,by rw [←Hst.out];simp only [stF];rw [if_pos HZ1.out,Hnd.out],by rw [←Hnd.out];omega,by omega,by omega,by omega,HD2.out.setDp _,(by repeat (first | with_reducible exact HG.out | with_reducible apply gr_alloc | with_reducible apply gr_drewN | with_reducible apply gr_drew | with_reducible apply gr_set | ((with_reducible refine gr_setM ?_ ?_ _ _);rotate_left;(first | omega | (simp;omega)))))⟩
end Go.Proofs.YtfkecmlmnhbmoaaGreatDoor
namespace Go.Proofs.YtfkecmlmnhbmoaaGreatDoor
open Go Go.RowKit
def BldAt (w:World) (b B:Nat) (l:By):Prop:=b < B∧B≤w.heap.size∧∃ p v,(p=.pointer none∨p=.pointer (some ⟨b,0,none⟩))∧w.heap[b]?=some (.cells #[p,v] 296 (0,0))∧OwnB B w v l
def KeptB (B b:Nat) (w w':World):Prop:=Below b w w'∧w.heap.size≤w'.heap.size∧(∀ k,k < B→k≠b→w'.heap[k]?=w.heap[k]?)∧∀ k,k < w.heap.size→k≠b→(∀ p v,w.heap[b]?=some (.cells #[p,v] 296 (0,0))→v.ownBlock≠some k)→w'.heap[k]?=w.heap[k]?
theorem BldAt.keep {w w':World} {b B:Nat} {l:By} (h:BldAt w b B l) {r:Option Nat} (hg:w.grownBy w' r) (hr:∀ k,r=some k→k < B∧k≠b):BldAt w' b B l:=by
 obtain ⟨h1,h2,p,v,h3,h4,h5⟩:=h
 refine ⟨h1,Nat.le_trans h2 hg.size,p,v,h3,(hg.block b (by omega) (fun e=>(hr b e.symm).2 rfl)).trans h4,h5.kept hg (fun k hk=>(hr k hk).1)⟩
set_option maxRecDepth 100000 in
set_option maxHeartbeats 40000000 in
theorem copy_any (w:World) (b B:Nat) (l:By) (h:BldAt w b B l):Calls Tryz.prog 230 #[.pointer (some ⟨b,0,none⟩)] w fun e w'=>e=.returned (.tuple #[])∧(∃ p v,w.heap[b]?=some (.cells #[p,v] 296 (0,0))∧w'.heap[b]?=some (.cells #[.pointer (some ⟨b,0,none⟩),v] 296 (0,0))∧OwnB B w' v l)∧w.grownBy w' (some b)∧w'.heap.size=w.heap.size:=by
 obtain ⟨h1,h2,p,v,h3,h4,h5⟩:=h
 have hinfo:(Tryz.prog.info? 296).map (fun i=>i.size)=some 2:=by kernel_rfl
 obtain ⟨j,hj,hjs⟩:=Option.map_eq_some_iff.1 hinfo
 have u294:=Tryz.underlying294
 have u314:=Tryz.underlying314
 rcases h3 with rfl | rfl
 ·have c0:w.cell? ⟨b,0,none⟩=some (.pointer none):=by simp [World.cell?,h4]
  have f0:w.frozen? ⟨b,0,none⟩=false:=by simp [World.frozen?,h4]
  have hsh:w.shape? b=some (296,2):=by simp [World.shape?,h4]
  go_enter Tryz.func230,Tryz.ntmps230
  go_wp2
  rw [Lib.run_to_unsafe w ⟨b,0,none⟩ u294 u314 hj (by rw [hjs];decide) hsh (Nat.zero_lt_succ 1)]
  simp only [Result.andThen]
  rw [Oper.upon_value]
  go_wp2
  rw [run_callFunc_extern Tryz.func239 (by kernel_rfl) (by kernel_rfl) (by kernel_rfl) (e:=Extern.AbiNoEscape.same) (by kernel_rfl)]
  rw [Lib.run_noEscape]
  simp only [Result.andThen]
  rw [Oper.upon_value]
  go_wp2
  rw [Lib.run_from_unsafe w ⟨b,0,none⟩ u314 u294 hj hsh (by kernel_rfl)]
  simp only [Result.andThen]
  rw [Oper.upon_value]
  go_wp2
  go_end0
  exact ⟨rfl,⟨_,v,h4,by simp [World.setCell,Array.getElem?_modify,h4],h5.set h1 _⟩,gr_set (World.grownBy.refl _ _) _ _,by simp⟩
 ·have c0:w.cell? ⟨b,0,none⟩=some (.pointer (some ⟨b,0,none⟩)):=by simp [World.cell?,h4]
  go_enter Tryz.func230,Tryz.ntmps230
  go_wp2
  rw [Lib.run_neq_ptr_same w _ u294 hj]
  go_wp2
  go_end0
  exact ⟨rfl,⟨_,v,h4,h4,h5⟩,World.grownBy.refl _ _,rfl⟩
def BldPost (B b:Nat) (w w':World) (l:By):Prop:=BldAt w' b B l∧KeptB B b w w'
theorem bld_store {w w1 wA w2:World} {b B:Nat} {l l':By} {v v' p0:Value} (hbB:b < B) (hBw:B≤w.heap.size) (hb0:w.heap[b]?=some (.cells #[p0,v] 296 (0,0))) (hb1:w1.heap[b]?=some (.cells #[.pointer (some ⟨b,0,none⟩),v] 296 (0,0))) (hv1:OwnB B w1 v l) (hg1:w.grownBy w1 (some b)) (hA3:w1.grownBy wA none)
  (hg2:wA.grownBy w2 v.ownBlock) (hv2:OwnB B w2 v' l'):BldPost B b w (w2.setCell ⟨b,1,none⟩ v') l':=by
 have hlt:b < w1.heap.size:=(Array.getElem?_eq_some_iff.1 hb1).1
 have hs1:=hg1.size
 have hA2:=hA3.size
 have hA4:∀ k,k < w1.heap.size→wA.heap[k]?=w1.heap[k]?:=fun k hk=>hA3.block k hk (by simp)
 have hA1:=hA4 b hlt
 have hne:some b≠v.ownBlock:=own_ne hv1 hbB
 have hb2:w2.heap[b]?=some (.cells #[.pointer (some ⟨b,0,none⟩),v] 296 (0,0)):=by
  rw [hg2.block b (by omega) hne,hA1];exact hb1
 have hs2:=hg2.size
 refine ⟨⟨hbB,by simp;omega,_,v',.inr rfl,by simp [World.setCell,Array.getElem?_modify,hb2],hv2.set hbB _⟩,⟨?_,?_,?_,?_,?_⟩,by simp;omega,?_,?_⟩
 ·exact ((hg2.os.trans hA3.os).trans hg1.os)
 ·exact ((hg2.tape.trans hA3.tape).trans hg1.tape)
 ·exact ((hg2.output.trans hA3.output).trans hg1.output)
 ·simp;omega
 ·intro k hk
  rw [Below.heap_setCell _ _ _ _ (by simp;omega)]
  rw [hg2.block k (by omega) (fun e=>by have:=(hv1.lt k e.symm).1;omega),hA4 k (by omega)]
  exact hg1.block k (by omega) (by simp;omega)
 ·intro k hk hkb
  rw [Below.heap_setCell _ _ _ _ (by simpa using hkb)]
  rw [hg2.block k (by omega) (fun e=>by have:=(hv1.lt k e.symm).1;omega),hA4 k (by omega)]
  exact hg1.block k (by omega) (by simp;omega)
 ·intro k hk hkb hno
  rw [Below.heap_setCell _ _ _ _ (by simpa using hkb)]
  rw [hg2.block k (by omega) (fun e=>hno p0 v hb0 e.symm),hA4 k (by omega)]
  exact hg1.block k (by omega) (by simp;omega)
set_option maxRecDepth 100000 in
set_option maxHeartbeats 40000000 in
theorem wbyte_any (w:World) (b B:Nat) (l:By) (c:UInt8) (h:BldAt w b B l) (hl:l.length≤1000000000):Calls Tryz.prog 215 #[.pointer (some ⟨b,0,none⟩),.int .u8 c.toNat] w fun e w'=>e=.returned .nilIface∧BldPost B b w w' (l ++ [c]):=by
 have hbB:=h.1
 have hBw:=h.2.1
 go_enter Tryz.func215,Tryz.ntmps215
 go_wp2_with fail
 refine (copy_any w b B l h).mono ?_
 rintro e w1 ⟨rfl,⟨p0,v,hb0,hb1,hv1⟩,hg1,-⟩
 have Hb0:=Lib.hid hb0;clear hb0
 have hs1:=hg1.size
 have c0:w1.cell? ⟨b,0,none⟩=some (.pointer (some ⟨b,0,none⟩)):=by simp [World.cell?,hb1]
 have c1:w1.cell? ⟨b,1,none⟩=some v:=by simp [World.cell?,hb1]
 have hlt:b < w1.heap.size:=(Array.getElem?_eq_some_iff.1 hb1).1
 have Hb1:=Lib.hid hb1;clear hb1
 have Hv1:=Lib.hid hv1;clear hv1
 have Hg1:=Lib.hid hg1;clear hg1
 go_wp2_with (at_builtin;go_must (refine wpList_push rfl (.tmp 11) (.tmp 13) rfl B _ l c _ rfl (OwnB.alloc Hv1.out _) _ rfl (by rw [World.cell?_alloc_at _ _ _ _ (by simp)];rfl) rfl (by omega) (by first | omega | (simp;omega)) ?_))
 intro v1 w2 hown1 hgr1
 have hb2:w2.heap[b]?=some (.cells #[.pointer (some ⟨b,0,none⟩),v] 296 (0,0)):=by
  rw [hgr1.block b (by simp;omega) (own_ne Hv1.out hbB),Below.heap_alloc _ _ _ hlt];exact Hb1.out
 have d0:w2.cell? ⟨b,0,none⟩=some (.pointer (some ⟨b,0,none⟩)):=by simp [World.cell?,hb2]
 have d1:w2.cell? ⟨b,1,none⟩=some v:=by simp [World.cell?,hb2]
 have f1:w2.frozen? ⟨b,1,none⟩=false:=by simp [World.frozen?,hb2]
 obtain ⟨g,cap,rfl⟩:∃ g cap,v1=.slice (some ⟨g,0,none⟩) (l.length + 1) cap:=by
  rcases hown1.2 with ⟨_,h0⟩ | ⟨g,cap,cur,hv,_⟩
  ·simp at h0
  ·exact ⟨g,cap,by simpa using hv⟩
 have HP:=Lib.hid (bld_store hbB hBw Hb0.out Hb1.out Hv1.out Hg1.out (gr_alloc (World.grownBy.refl _ _) _) hgr1 hown1)
 clear hb2 hgr1 hown1
 go_wp2_with fail
 go_ret
 exact ⟨rfl,HP.out⟩
set_option maxRecDepth 100000 in
set_option maxHeartbeats 40000000 in
theorem wstr_any (w:World) (b B:Nat) (l:By) (t:By) (h:BldAt w b B l) (hl:l.length + t.length≤1000000000):Calls Tryz.prog 217 #[.pointer (some ⟨b,0,none⟩),.string (bs t)] w fun e w'=>(∃ k,e=.returned (.tuple #[k,.nilIface]))∧BldPost B b w w' (l ++ t):=by
 have hbB:=h.1
 have hBw:=h.2.1
 obtain ⟨i0,hi,hz0,hz1,hz2⟩:=info_parts Tryz.info5
 go_enter Tryz.func217,Tryz.ntmps217
 go_wp2_with fail
 refine (copy_any w b B l h).mono ?_
 rintro e w1 ⟨rfl,⟨p0,v,hb0,hb1,hv1⟩,hg1,-⟩
 have Hb0:=Lib.hid hb0;clear hb0
 have hs1:=hg1.size
 have c0:w1.cell? ⟨b,0,none⟩=some (.pointer (some ⟨b,0,none⟩)):=by simp [World.cell?,hb1]
 have c1:w1.cell? ⟨b,1,none⟩=some v:=by simp [World.cell?,hb1]
 have hlt:b < w1.heap.size:=(Array.getElem?_eq_some_iff.1 hb1).1
 have Hb1:=Lib.hid hb1;clear hb1
 have Hv1:=Lib.hid hv1;clear hv1
 have Hg1:=Lib.hid hg1;clear hg1
 have hts:(bs t).size=t.length:=bs_size t
 have Hts:=Lib.hid hts;clear hts
 go_wp2_with (at_builtin;refine Lib.wpList_append_own_string _ rfl _ _ 84 9 rfl B 5 i0 Tryz.underlying84 Tryz.underlying9 hi hz0 hz1 hz2 _ _ _ rfl Hv1.out (bs t) rfl (by rw [Hts.out];unfold maxLen;omega) (by rw [Hts.out];omega) (by omega) ?_)
 intro v1 w2 hown1 hgr1 _
 have hb2:w2.heap[b]?=some (.cells #[.pointer (some ⟨b,0,none⟩),v] 296 (0,0)):=by
  rw [hgr1.block b hlt (own_ne Hv1.out hbB)];exact Hb1.out
 have d0:w2.cell? ⟨b,0,none⟩=some (.pointer (some ⟨b,0,none⟩)):=by simp [World.cell?,hb2]
 have d1:w2.cell? ⟨b,1,none⟩=some v:=by simp [World.cell?,hb2]
 have f1:w2.frozen? ⟨b,1,none⟩=false:=by simp [World.frozen?,hb2]
 have hown2:OwnB B w2 v1 (l ++ t):=by
  unfold OwnB
  have e1:Lib.strCells (bs t)=t.map fun c=>Value.int .u8 (c.toNat:Int):=by simp [Lib.strCells,bs]
  rw [e1,Hts.out] at hown1
  simpa using hown1
 obtain ⟨ao,n',cap,rfl⟩:∃ ao n' cap,v1=.slice ao n' cap:=by
  rcases hown1.2 with ⟨hv,_⟩ | ⟨g,cap,cur,hv,_⟩
  ·exact ⟨_,_,_,hv⟩
  ·exact ⟨_,_,_,hv⟩
 have HP:=Lib.hid (bld_store hbB hBw Hb0.out Hb1.out Hv1.out Hg1.out (World.grownBy.refl _ _) hgr1 hown2)
 clear hb2 hgr1 hown1 hown2
 go_wp2_with fail
 go_ret2
 exact ⟨⟨_,rfl⟩,HP.out⟩
theorem wtoS_any (w:World) (b B:Nat) (l:By) (h:BldAt w b B l):Calls Tryz.prog 219 #[.pointer (some ⟨b,0,none⟩)] w fun e w'=>e=.returned (.string (bs l))∧Below b w w':=by
 obtain ⟨h1,h2,p,v,h3,h4,h5⟩:=h
 have hrow:w.ownsRow b 5 1 v l.length (l.map fun c=>Value.int .u8 (c.toNat:Int)):=by
  obtain ⟨q1,q2⟩:=h5
  refine ⟨q1,?_⟩
  rcases q2 with q2 | ⟨g,cap,cur,hv,hb,rest⟩
  ·exact .inl q2
  ·exact .inr ⟨g,cap,cur,hv,by omega,rest⟩
 have hne:v.ownBlock≠some b:=fun e=>own_ne h5 h1 e.symm
 have hI:Lib.IsBuilder 296 5 b b (Lib.byteCells l) w:=by
  have hl:(Lib.byteCells l).length=l.length:=by simp [Lib.byteCells]
  rcases h3 with rfl | rfl
  ·exact .inl ⟨Nat.le_refl _,v,h4,by rw [hl];exact hrow,hne⟩
  ·exact .inr ⟨Nat.le_refl _,v,h4,by rw [hl];exact hrow,hne⟩
 exact Tryz.Builder_String_any b b l w hI (by omega)
theorem BldAt.fresh (w:World):BldAt (w.alloc (.cells #[.pointer none,.slice none 0 0] 296 (0,0))) w.heap.size (w.heap.size + 1) [] :=
 ⟨by omega,by simp,.pointer none,.slice none 0 0,.inl rfl,heap_alloc_new w _,OwnB.nil _ _⟩
end Go.Proofs.YtfkecmlmnhbmoaaGreatDoor
namespace Go.Proofs.YtfkecmlmnhbmoaaGreatDoor
open Go Go.RowKit
def ValB:Prop:=∀ (w:World) (b:Nat) (s:ByteArray) (p l:By) (bad deep:Int) (odd ends:Bool),s.size≤1000000000→RdAt w b s p l bad deep odd ends→bad≠0 →
 Calls Tryz.prog 28 #[.pointer (some ⟨b,0,none⟩)] w fun e w'=>e=.returned zeroV∧(∃ p' l' o',RdAt w' b s p' l' bad deep o' ends)∧w.grownBy w' (some b)
theorem RdAt.skip2 {w:World} {b:Nat} {s:ByteArray} {p l:By} {bad deep:Int} {odd ends:Bool} {c d:UInt8} (h:RdAt w b s p (c::d::l) bad deep odd ends) :
  RdAt (w.setCell ⟨b,1,Option.none⟩ (.int .i64 (p.length + 2))) b s (p ++ [c,d]) l bad deep odd ends:=by
 have:=h.jump (P2:=p ++ [c,d]) (r:=l) (by rw [h.1];simp)
 simpa using this
theorem Tryz.info9:(Tryz.prog.info? 9).map (fun i=>(i.zero,i.size,i.bytes))=some (some (.string ⟨#[]⟩),1,16):=by kernel_rfl
theorem row_len {w:World} {base:Nat} {e:TypeId} {size:Nat} {o:Option Addr} {n c m:Nat} {xs:List Value} (h:w.ownsRow base e size (.slice o n c) m xs):n=m:=by
 rcases h.2 with ⟨hv,hm⟩ | ⟨g,cap,cur,hv,_⟩
 ·injection hv with _ h1 _;omega
 ·injection hv with _ h1 _
theorem row_cell {w:World} {base:Nat} {e:TypeId} {o:Option Addr} {n c m i:Nat} {xs:List Value} {u:Value} (h:w.ownsRow base e 1 (.slice o n c) m xs) (hu:xs[i]?=some u):∃ g,o=some ⟨g,0,none⟩∧w.cell? ⟨g,i,none⟩=some u:=by
 obtain ⟨h1,h2⟩:=h
 have hi:i < xs.length:=(List.getElem?_eq_some_iff.1 hu).1
 rcases h2 with ⟨hv,hm⟩ | ⟨g,cap,cur,hv,hb,hg,hc,hm,hs,ht⟩
 ·subst hm;simp at h1;subst h1;simp at hi
 ·injection hv with h3 _ _
  refine ⟨g,h3,?_⟩
  have hj2:cur.toList[i]?=some u:=by
   rw [←ht,List.getElem?_take] at hu
   split at hu
   ·exact hu
   ·simp at hu
  have hj3:cur[i]?=some u:=by simpa using hj2
  simp [World.cell?,hg,hj3]
theorem bytes_eq {a b:ByteArray} (h:a.data.toList=b.data.toList):a=b:=by
 obtain ⟨⟨a⟩⟩:=a
 obtain ⟨⟨b⟩⟩:=b
 simp only at h
 rw [h]
theorem failB_ne (bad what:Int) (h:what≠0):failB bad what≠0:=by unfold failB;split<;>assumption
theorem notin_take {keys:List By} {i:Nat} {key:By} (h:i < keys.length):key∉keys.take (i + 1)↔key∉keys.take i∧keys[i]≠key:=by
 rw [←List.take_append_getElem h,List.mem_append]
 simp only [List.mem_singleton]
 constructor
 ·intro e;exact ⟨fun x=>e (.inl x),fun x=>e (.inr x.symm)⟩
 ·rintro ⟨e1,e2⟩ (e | e)
  ·exact e1 e
  ·exact e2 e.symm
theorem value_bad {pf:By→Nat} {W0 w:World} {n:Nat} (hV:ValC pf W0 n) (hVB:ValB) {b:Nat} {s:ByteArray} {p l:By} {bad:Int} {odd ends:Bool} (hE:Env W0 w) (hW0:W0.heap.size≤b) (hs:s.size≤1000000000) (hR:RdAt w b s p l bad (50 - n) odd ends) (hn:n≤50) (h:bad≠0∨bad=0∧rdV pf n l odd=none) :
  Calls Tryz.prog 28 #[.pointer (some ⟨b,0,none⟩)] w fun e w'=>VPost w w' b s (50 - n) ends e none:=by
 rcases h with h | ⟨rfl,h⟩
 ·refine (hVB w b s p l bad (50 - n) odd ends hs hR h).mono ?_
  rintro e w' ⟨rfl,⟨p',l',o',hR'⟩,hg⟩
  exact ⟨zeroV,rfl,⟨_,_,_,_,_,_,_,_,_,_,_,rfl⟩,⟨p',l',o',bad,ends,h,hR'⟩,hg⟩
 ·have:=hV w b s p l odd ends hE hW0 hs hR hn
  rwa [h] at this
theorem nameB_len:∀ (n:Nat) (l out r:By),l.length≤n→nameB l out=some r→r.length≤out.length + l.length:=by
 intro n
 induction n with
 | zero =>
  intro l out r hl h
  obtain rfl:l=[]:=List.eq_nil_of_length_eq_zero (by omega)
  simp [nameB] at h;subst h;simp
 | succ n ih =>
  intro l out r hl h
  match l with
  | []=>simp [nameB] at h;subst h;simp
  | c :: l =>
   rcases Bool.eq_false_or_eq_true ((c.toNat:Int) != 35) with h1 | h1
   ·rw [nameB_plain h1] at h
    have:=ih l _ _ (by simp at hl;omega) h
    simp at this ⊢;omega
   ·match l with
    | []=>rw [nameB_1 h1] at h;simp at h
    | [a]=>rw [nameB_2 h1] at h;simp at h
    | a :: b :: l =>
     rw [nameB_3 h1] at h
     split at h
     ·simp at h
     ·split at h
      ·simp at h
      ·have:=ih l _ _ (by simp at hl;omega) h
       simp at this ⊢;omega
def DictI (w wr:World) (b:Nat) (s:ByteArray) (deep:Int) (ends:Bool) (f:By→Bool→Rd PV) (R:Rd (List By × List PV)) (g:Nat):Prop :=
 (∃ ko kn kc so sn sc p' l' o' m keys acc S cells,ColG w wr b 7 (.slice ko kn kc) (.slice so sn sc) keys acc S cells∧g=l'.length + 1∧l'.length≤m∧acc.length + l'.length≤s.size∧keys.length=acc.length∧rdDict f m l' o' keys acc=R∧RdAt wr b s p' l' 0 deep o' ends)
 ∨ (R=none∧g=0∧w.grownBy wr (some b)∧wr.heap[w.heap.size]?=some (.cells #[.int .i64 0,.int .i64 0,.int .i64 0,.float .f64 0,.string ⟨#[]⟩,.slice none 0 0,.slice none 0 0] 30 (0,0))∧(∃ ko kn kc so sn sc,wr.heap[w.heap.size + 1]?=some (AB 7 (.slice ko kn kc) (.slice so sn sc)))∧∃ p' l' o' bad en',bad≠0∧RdAt wr b s p' l' bad deep o' en')
theorem pre2 (n:UInt8) (l:By):[n,n].isPrefixOf l=is2 l (n.toNat:Int):=by
 have key:∀ c:UInt8,(n == c)=((c.toNat:Int) == (n.toNat:Int)):=by
  intro c
  rw [Bool.eq_iff_iff]
  simp only [beq_iff_eq]
  constructor
  ·intro e;rw [e]
  ·intro e;apply UInt8.toNat_inj.1;omega
 cases l with
 | nil=>rfl
 | cons c l =>
  cases l with
  | nil=>simp [List.isPrefixOf,is2]
  | cons d l=>simp only [List.isPrefixOf,is2,Bool.and_true,key]
theorem rdDict_end {f:By→Bool→Rd PV} {m:Nat} {l la:By} {o oa:Bool} {ks:List By} {acc:List PV} (h1:passM false l o=(la,oa)) (h2:is2 la 62=true):rdDict f (m + 1) l o ks acc=some ((ks,acc),la.tail.tail,oa):=by
 simp only [rdDict,h1,h2,if_true]
theorem rdDict_else {f:By→Bool→Rd PV} {m:Nat} {l la:By} {o oa:Bool} {ks:List By} {acc:List PV} (h1:passM false l o=(la,oa)) (h2:is2 la 62=false) (h3:headIs la (· == 47)=false):rdDict f m l o ks acc=none:=by
 cases m with
 | zero=>rfl
 | succ m=>simp only [rdDict,h1,h2,h3];rfl
theorem rdDict_noname {f:By→Bool→Rd PV} {m:Nat} {l l2:By} {c:UInt8} {o oa:Bool} {ks:List By} {acc:List PV} (h1:passM false l o=(c::l2,oa)) (h2:is2 (c::l2) 62=false) (h4:nameB (wordT l2) []=none):rdDict f m l o ks acc=none:=by
 cases m with
 | zero=>rfl
 | succ m=>simp [rdDict,h1,h2,h4]
theorem rdDict_badkey {f:By→Bool→Rd PV} {m:Nat} {l l2:By} {c:UInt8} {o oa:Bool} {ks:List By} {acc:List PV} {k:By} (h1:passM false l o=(c::l2,oa)) (h2:is2 (c::l2) 62=false) (h4:nameB (wordT l2) []=some k) (h5:35∈k∨k∈ks):rdDict f m l o ks acc=none:=by
 cases m with
 | zero=>rfl
 | succ m=>simp [rdDict,h1,h2,h4,h5]
theorem rdDict_noval {f:By→Bool→Rd PV} {m:Nat} {l l2:By} {c:UInt8} {o oa:Bool} {ks:List By} {acc:List PV} {k:By} (h1:passM false l o=(c::l2,oa)) (h2:is2 (c::l2) 62=false) (h4:nameB (wordT l2) []=some k) (h6:f (wordR l2) (wordO l2 oa)=none):rdDict f m l o ks acc=none:=by
 cases m with
 | zero=>rfl
 | succ m=>simp [rdDict,h1,h2,h4,h6]
theorem rdDict_some {f:By→Bool→Rd PV} {m:Nat} {l l2:By} {c:UInt8} {o oa:Bool} {ks:List By} {acc:List PV} {k:By} {x:PV} {r:By} {o2:Bool} (h1:passM false l o=(c::l2,oa)) (h2:is2 (c::l2) 62=false) (h3:headIs (c::l2) (· == 47)=true) (h4:nameB (wordT l2) []=some k) (h5:¬(35∈k∨k∈ks)) (h6:f (wordR l2) (wordO l2 oa)=some (x,r,o2)) :
  rdDict f (m + 1) l o ks acc=rdDict f m r o2 (ks ++ [k]) (acc ++ [x]):=by
 simp only [rdDict,h1,h2,h3,List.tail_cons,h4,if_neg h5,h6];rfl
end Go.Proofs.YtfkecmlmnhbmoaaGreatDoor
