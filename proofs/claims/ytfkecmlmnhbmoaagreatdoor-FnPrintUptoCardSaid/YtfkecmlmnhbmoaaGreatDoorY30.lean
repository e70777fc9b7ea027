/- The texts C4 of the workbench, laid together. -/
import Derived.Test.YtfkecmlmnhbmoaaGreatDoorProg
import Derived.WalkKit
import Derived.WalkLawsBesides
import Derived.WalkSpells
import Derived.BigQuiet
import Derived.BigRegion
import Derived.Deep.QuietTactic
import Derived.Deep.RegionHeld3
import Derived.Deep.LoopGhost
import Derived.StillTailTactics
import Derived.Lib.Hide
import Derived.Laws.EntriesVeiled
import Derived.Test.YtfkecmlmnhbmoaaGreatDoorY29
set_option linter.unusedVariables false
set_option linter.unusedSimpArgs false
namespace Go.Proofs.YtfkecmlmnhbmoaaGreatDoor
open Go Go.RowKit
theorem num_plain {pf:By→Nat} {l:By} {o:Bool} {x:PV} {r:By} {o2:Bool} (h:rdNum pf l o=some (x,r,o2)) (S:Nat→Prop) (w:World):IsV S w x nilS nilS:=by
 simp only [rdNum,refF] at h
 repeat' split at h
 all_goals first
  | (simp at h;done)
  | (simp only [Option.some.injEq,Prod.mk.injEq] at h;obtain ⟨rfl,_⟩:=h;exact IsV.plain (by trivial))
set_option maxRecDepth 100000 in
set_option maxHeartbeats 40000000 in
theorem val_arr (pf:By→Nat) (W0:World) (n:Nat) (hn:n≤49) (hV:ValC pf W0 n) (w:World) (b:Nat) (s:ByteArray) (p l:By) (deep:Int) (hd0:0≤deep) (hd1:deep≤49) (odd ends:Bool) (hR:RdAt w b s p l 0 deep odd ends) (hs:s.size≤1000000000) (oa:Bool) (hE:Env W0 w) (hW0:W0.heap.size≤b) (hdn:deep + 1=50 - n) (c:UInt8) (la:By) (hP:passM false l odd=(c::la,oa)) (h40:((c.toNat:Int) == 40)=false) (hd:is2 (c::la) 60=false) (h60:((c.toNat:Int) == 60)=false) (h47:((c.toNat:Int) == 47)=false) (h91:((c.toNat:Int) == 91)=true) :
  Calls Tryz.prog 28 #[.pointer (some ⟨b,0,none⟩)] w fun e w'=>VPost w w' b s deep ends e ((rdArr (rdV pf n) la.length la oa []).map fun r=>(.arr r.1,r.2)):=by
 have HE:=Lib.hid hE;clear hE
 have HV:=Lib.hid hV;clear hV
 have Hdn:=Lib.hid hdn;clear hdn
 have hbB:=hR.lt
 have HR:=Lib.hid hR;clear hR
 have hal:=alloc2 w w.heap.size rfl (.cells #[.pointer (some ⟨b,0,none⟩)] 55 (0,0)) (.cells #[.int .i64 0,.int .i64 0,.int .i64 0,.float .f64 0,.string ⟨#[]⟩,.slice none 0 0,.slice none 0 0] 30 (0,0))
 have hmf:∀ (fn:Fn) (first cap:Array Value) (w:World),(Instr.makeFunc fn first cap).run Tryz.prog w=.ok (.func fn first cap) w:=fun _ _ _ _=>rfl
 go_enter_defers Tryz.func28,Tryz.ntmps28
 go_wp2_with fail
 refine (pass_any _ b s p l 0 deep odd ends (by exact (HR.out.alloc _).alloc _) (by omega)).mono ?_
 rintro e w1 ⟨rfl,⟨p1,hR1⟩,hg1⟩
 have hb1:=keep hg1 hal.1 (by simp;omega)
 have hb2:=keep hg1 hal.2 (by simp;omega)
 have hlt1:w.heap.size + 1 < w1.heap.size:=(Array.getElem?_eq_some_iff.1 hb2).1
 have HG1:=Lib.hid (gr_same (gr_alloc (gr_alloc (World.grownBy.refl w (some b)) _) _) hg1)
 have HB1:=Lib.hid hb1
 have HB2:=Lib.hid hb2
 have d0:w1.cell? ⟨w.heap.size,0,none⟩=some (.pointer (some ⟨b,0,none⟩)):=by simp [World.cell?,hb1]
 rw [hP] at hR1
 simp only at hR1
 obtain ⟨c0,c1,c2,c3,c4,c5,cf⟩:=hR1.cells
 have hsz1:=hR1.size
 have HR1:=Lib.hid hR1
 have hnb1:¬w.heap.size=b:=by omega
 have hnb2:¬w.heap.size + 1=b:=by omega
 have hp1:p1.length≤s.size:=by omega
 have Hsz1:=Lib.hid hsz1
 clear hg1 hal hb1 hb2 hR1 hsz1
 go_wp2_with fail
 have hlt:p1.length < s.size:=by have:=Hsz1.out;simp at this;omega
 obtain ⟨hk,hget⟩:=HR1.out.head
 have hle:¬s.size≤p1.length:=by omega
 have HR2:=Lib.hid (HR1.out.set3 (deep + 1))
 have HG2:=Lib.hid (gr_set HG1.out 3 (.int .i64 (deep + 1)))
 have hlt2:w.heap.size + 1 < (w1.setCell ⟨b,3,none⟩ (.int .i64 (deep + 1))).heap.size:=by simp;omega
 have HB3:=Lib.hid ((Below.heap_setCell w1 ⟨b,3,none⟩ (.int .i64 (deep + 1)) w.heap.size (by simp;omega)).trans HB1.out)
 have HB4:=Lib.hid ((Below.heap_setCell w1 ⟨b,3,none⟩ (.int .i64 (deep + 1)) (w.heap.size + 1) (by simp;omega)).trans HB2.out)
 obtain ⟨w2,hw2⟩:∃ w2,w2=w1.setCell ⟨b,3,none⟩ (.int .i64 (deep + 1)):=⟨_,rfl⟩
 rw [←hw2] at HR2 HG2 HB3 HB4 hlt2 ⊢
 clear hw2 HR1 HG1 HB1 HB2 c0 c1 c2 c3 c4 c5 cf d0 hlt1
 obtain ⟨c0,c1,c2,c3,c4,c5,cf⟩:=HR2.out.cells
 have d0:w2.cell? ⟨w.heap.size,0,none⟩=some (.pointer (some ⟨b,0,none⟩)):=by simp [World.cell?,HB3.out]
 go_quiet ((first|(go_at_call 42;with_reducible first|exact qaw _|exact qbw _)|(go_at_call 43;with_reducible first|exact qap _|exact qbp _)|(go_at_call 52;with_reducible first|exact qad _|exact qbd _)|(go_at_call 76;with_reducible first|exact qar _|exact qbr _)|(go_at_call 75;with_reducible first|exact qag _|exact qbg _)));go_wp2_with fail
 go_quiet ((first|(go_at_call 42;with_reducible first|exact qaw _|exact qbw _)|(go_at_call 43;with_reducible first|exact qap _|exact qbp _)|(go_at_call 52;with_reducible first|exact qad _|exact qbd _)|(go_at_call 76;with_reducible first|exact qar _|exact qbr _)|(go_at_call 75;with_reducible first|exact qag _|exact qbg _)));go_wp2_with fail
 refine (is_any _ b s p1 (c::la) 0 (deep + 1) oa ends (by exact HR2.out.drewN _) (by omega) ⟨#[60,60]⟩ (by decide)).mono ?_
 rintro e w2' ⟨rfl,n2,hw2'⟩
 have hpre:(⟨#[60,60]⟩:ByteArray).data.toList.isPrefixOf (c::la)=is2 (c::la) 60:=pre2 60 (c::la)
 rw [hpre,hd]
 clear hpre
 subst w2'
 go_wp2_with fail
 go_quiet ((first|(go_at_call 42;with_reducible first|exact qaw _|exact qbw _)|(go_at_call 43;with_reducible first|exact qap _|exact qbp _)|(go_at_call 52;with_reducible first|exact qad _|exact qbd _)|(go_at_call 76;with_reducible first|exact qar _|exact qbr _)|(go_at_call 75;with_reducible first|exact qag _|exact qbg _)));go_wp2_with fail
 go_quiet ((first|(go_at_call 42;with_reducible first|exact qaw _|exact qbw _)|(go_at_call 43;with_reducible first|exact qap _|exact qbp _)|(go_at_call 52;with_reducible first|exact qad _|exact qbd _)|(go_at_call 76;with_reducible first|exact qar _|exact qbr _)|(go_at_call 75;with_reducible first|exact qag _|exact qbg _)));go_wp2_with fail
 go_quiet ((first|(go_at_call 42;with_reducible first|exact qaw _|exact qbw _)|(go_at_call 43;with_reducible first|exact qap _|exact qbp _)|(go_at_call 52;with_reducible first|exact qad _|exact qbd _)|(go_at_call 76;with_reducible first|exact qar _|exact qbr _)|(go_at_call 75;with_reducible first|exact qag _|exact qbg _)));go_wp2_with fail
 refine (arr_any pf W0 _ (by exact HE.out.grown (gr_drewN HG2.out _) (fun k hk=>by injection hk with hk;omega)) b s p1 la c n (by omega) HV.out oa ends (by rw [←Hdn.out];exact HR2.out.drewN _) hs hW0).mono ?_
 intro e w3 hP3
 obtain ⟨R,hRe⟩:∃ R,R=(rdArr (rdV pf n) la.length la oa []).map fun r=>(PV.arr r.1,r.2):=⟨_,rfl⟩
 rw [←hRe,←Hdn.out] at hP3
 have HRe:=Lib.hid hRe;clear hRe
 cases R with
 | none =>
  obtain ⟨vv,rfl,⟨xk,xn,xg,xx,xt,ko2,kn2,kc2,vo2,vn2,vc2,rfl⟩,⟨p3,l3,o3,bad3,en3,hbad3,hR3⟩,hg3⟩:=hP3
  have hz3:=keep hg3 HB4.out (by simp;omega)
  have hx3:=keep hg3 HB3.out (by simp;omega)
  have HG3:=Lib.hid (gr_same HG2.out (show w2.grownBy w3 (some b) from ⟨hg3.os,hg3.tape,hg3.output,hg3.size,hg3.block⟩))
  have hlt3:w.heap.size + 1 < w3.heap.size:=(Array.getElem?_eq_some_iff.1 hz3).1
  obtain ⟨z0,z1,z2,z3,z4,z5,z6,zf⟩:=zb_cells hz3
  have HZ3:=Lib.hid hz3
  have HX3:=Lib.hid hx3
  have HR3:=Lib.hid hR3;clear hR3
  clear hz3 hx3 hg3 c0 c1 c2 c3 c4 c5 cf d0 HG2 HR2 HB3 HB4
  go_wp2_with fail
  refine val_door HX3.out HZ3.out HR3.out HG3.out hbB hd0 (by omega) rfl ?_
  intro w' g1 g2 g3 g4
  rw [←HRe.out]
  exact ⟨_,rfl,⟨_,_,_,_,_,_,_,_,_,_,_,rfl⟩,⟨p3,l3,o3,bad3,en3,hbad3,g1⟩,g2⟩
 | some q =>
  obtain ⟨x,r,o2⟩:=q
  obtain ⟨ks2,vs2,S2,rfl,hV3,hS3,⟨p3,hR3⟩,hg3⟩:=hP3
  obtain ⟨⟨ko2,kn2,kc2,hks⟩,⟨vo2,vn2,vc2,hvs⟩⟩:=IsV.slices hV3
  subst hks
  subst hvs
  unfold valOf
  have HV3:=Lib.hid hV3;clear hV3
  have HS3:=Lib.hid hS3;clear hS3
  have hz3:=keep hg3 HB4.out (by simp;omega)
  have hx3:=keep hg3 HB3.out (by simp;omega)
  have HG3:=Lib.hid (gr_same HG2.out (show w2.grownBy w3 (some b) from ⟨hg3.os,hg3.tape,hg3.output,hg3.size,hg3.block⟩))
  have hlt3:w.heap.size + 1 < w3.heap.size:=(Array.getElem?_eq_some_iff.1 hz3).1
  obtain ⟨z0,z1,z2,z3,z4,z5,z6,zf⟩:=zb_cells hz3
  have HZ3:=Lib.hid hz3
  have HX3:=Lib.hid hx3
  have HR3:=Lib.hid hR3;clear hR3
  clear hz3 hx3 hg3 c0 c1 c2 c3 c4 c5 cf d0 HG2 HR2 HB3 HB4
  go_wp2_with fail
  refine val_door HX3.out HZ3.out HR3.out HG3.out hbB hd0 (by omega) rfl ?_
  intro w' g1 g2 g3 g4
  rw [←HRe.out]
  refine ⟨_,_,S2,rfl,IsV.keep (fun k hk=>⟨hk,g3 k ?_ ?_⟩) _ _ _ HV3.out,fun k hk=>?_,⟨p3,g1⟩,g2⟩
  ·have:=(HS3.out k hk).1
   have hh:(w2.drewN 0).heap.size=w2.heap.size:=rfl
   simp at this
   omega
  ·have:=(HS3.out k hk).1
   simp at this
   omega
  ·have:=HS3.out k hk
   simp at this
   omega
set_option maxRecDepth 100000 in
set_option maxHeartbeats 40000000 in
theorem val_delim (w:World) (b:Nat) (s:ByteArray) (p l:By) (deep:Int) (hd0:0≤deep) (hd1:deep≤49) (odd ends:Bool) (hR:RdAt w b s p l 0 deep odd ends) (hs:s.size≤1000000000) (oa:Bool) (c:UInt8) (la:By) (hP:passM false l odd=(c::la,oa)) (h40:((c.toNat:Int) == 40)=false) (hd:is2 (c::la) 60=false) (h60:((c.toNat:Int) == 60)=false) (h47:((c.toNat:Int) == 47)=false) (h91:((c.toNat:Int) == 91)=false) (hdl:isDelim (c.toNat:Int)=true) :
  Calls Tryz.prog 28 #[.pointer (some ⟨b,0,none⟩)] w fun e w'=>VPost w w' b s deep ends e none:=by
 have hbB:=hR.lt
 have HR:=Lib.hid hR;clear hR
 have hal:=alloc2 w w.heap.size rfl (.cells #[.pointer (some ⟨b,0,none⟩)] 55 (0,0)) (.cells #[.int .i64 0,.int .i64 0,.int .i64 0,.float .f64 0,.string ⟨#[]⟩,.slice none 0 0,.slice none 0 0] 30 (0,0))
 have hmf:∀ (fn:Fn) (first cap:Array Value) (w:World),(Instr.makeFunc fn first cap).run Tryz.prog w=.ok (.func fn first cap) w:=fun _ _ _ _=>rfl
 go_enter_defers Tryz.func28,Tryz.ntmps28
 go_wp2_with fail
 refine (pass_any _ b s p l 0 deep odd ends (by exact (HR.out.alloc _).alloc _) (by omega)).mono ?_
 rintro e w1 ⟨rfl,⟨p1,hR1⟩,hg1⟩
 have hb1:=keep hg1 hal.1 (by simp;omega)
 have hb2:=keep hg1 hal.2 (by simp;omega)
 have hlt1:w.heap.size + 1 < w1.heap.size:=(Array.getElem?_eq_some_iff.1 hb2).1
 have HG1:=Lib.hid (gr_same (gr_alloc (gr_alloc (World.grownBy.refl w (some b)) _) _) hg1)
 have HB1:=Lib.hid hb1
 have HB2:=Lib.hid hb2
 have d0:w1.cell? ⟨w.heap.size,0,none⟩=some (.pointer (some ⟨b,0,none⟩)):=by simp [World.cell?,hb1]
 rw [hP] at hR1
 simp only at hR1
 obtain ⟨c0,c1,c2,c3,c4,c5,cf⟩:=hR1.cells
 have hsz1:=hR1.size
 have HR1:=Lib.hid hR1
 have hnb1:¬w.heap.size=b:=by omega
 have hnb2:¬w.heap.size + 1=b:=by omega
 have hp1:p1.length≤s.size:=by omega
 have Hsz1:=Lib.hid hsz1
 clear hg1 hal hb1 hb2 hR1 hsz1
 go_wp2_with fail
 have hlt:p1.length < s.size:=by have:=Hsz1.out;simp at this;omega
 obtain ⟨hk,hget⟩:=HR1.out.head
 have hle:¬s.size≤p1.length:=by omega
 have HR2:=Lib.hid (HR1.out.set3 (deep + 1))
 have HG2:=Lib.hid (gr_set HG1.out 3 (.int .i64 (deep + 1)))
 have hlt2:w.heap.size + 1 < (w1.setCell ⟨b,3,none⟩ (.int .i64 (deep + 1))).heap.size:=by simp;omega
 have HB3:=Lib.hid ((Below.heap_setCell w1 ⟨b,3,none⟩ (.int .i64 (deep + 1)) w.heap.size (by simp;omega)).trans HB1.out)
 have HB4:=Lib.hid ((Below.heap_setCell w1 ⟨b,3,none⟩ (.int .i64 (deep + 1)) (w.heap.size + 1) (by simp;omega)).trans HB2.out)
 obtain ⟨w2,hw2⟩:∃ w2,w2=w1.setCell ⟨b,3,none⟩ (.int .i64 (deep + 1)):=⟨_,rfl⟩
 rw [←hw2] at HR2 HG2 HB3 HB4 hlt2 ⊢
 clear hw2 HR1 HG1 HB1 HB2 c0 c1 c2 c3 c4 c5 cf d0 hlt1
 obtain ⟨c0,c1,c2,c3,c4,c5,cf⟩:=HR2.out.cells
 have d0:w2.cell? ⟨w.heap.size,0,none⟩=some (.pointer (some ⟨b,0,none⟩)):=by simp [World.cell?,HB3.out]
 go_quiet ((first|(go_at_call 42;with_reducible first|exact qaw _|exact qbw _)|(go_at_call 43;with_reducible first|exact qap _|exact qbp _)|(go_at_call 52;with_reducible first|exact qad _|exact qbd _)|(go_at_call 76;with_reducible first|exact qar _|exact qbr _)|(go_at_call 75;with_reducible first|exact qag _|exact qbg _)));go_wp2_with fail
 go_quiet ((first|(go_at_call 42;with_reducible first|exact qaw _|exact qbw _)|(go_at_call 43;with_reducible first|exact qap _|exact qbp _)|(go_at_call 52;with_reducible first|exact qad _|exact qbd _)|(go_at_call 76;with_reducible first|exact qar _|exact qbr _)|(go_at_call 75;with_reducible first|exact qag _|exact qbg _)));go_wp2_with fail
 refine (is_any _ b s p1 (c::la) 0 (deep + 1) oa ends (by exact HR2.out.drewN _) (by omega) ⟨#[60,60]⟩ (by decide)).mono ?_
 rintro e w2' ⟨rfl,n2,hw2'⟩
 have hpre:(⟨#[60,60]⟩:ByteArray).data.toList.isPrefixOf (c::la)=is2 (c::la) 60:=pre2 60 (c::la)
 rw [hpre,hd]
 clear hpre
 subst w2'
 go_wp2_with fail
 go_quiet ((first|(go_at_call 42;with_reducible first|exact qaw _|exact qbw _)|(go_at_call 43;with_reducible first|exact qap _|exact qbp _)|(go_at_call 52;with_reducible first|exact qad _|exact qbd _)|(go_at_call 76;with_reducible first|exact qar _|exact qbr _)|(go_at_call 75;with_reducible first|exact qag _|exact qbg _)));go_wp2_with fail
 go_quiet ((first|(go_at_call 42;with_reducible first|exact qaw _|exact qbw _)|(go_at_call 43;with_reducible first|exact qap _|exact qbp _)|(go_at_call 52;with_reducible first|exact qad _|exact qbd _)|(go_at_call 76;with_reducible first|exact qar _|exact qbr _)|(go_at_call 75;with_reducible first|exact qag _|exact qbg _)));go_wp2_with fail
 go_quiet ((first|(go_at_call 42;with_reducible first|exact qaw _|exact qbw _)|(go_at_call 43;with_reducible first|exact qap _|exact qbp _)|(go_at_call 52;with_reducible first|exact qad _|exact qbd _)|(go_at_call 76;with_reducible first|exact qar _|exact qbr _)|(go_at_call 75;with_reducible first|exact qag _|exact qbg _)));go_wp2_with fail
 go_quiet ((first|(go_at_call 42;with_reducible first|exact qaw _|exact qbw _)|(go_at_call 43;with_reducible first|exact qap _|exact qbp _)|(go_at_call 52;with_reducible first|exact qad _|exact qbd _)|(go_at_call 76;with_reducible first|exact qar _|exact qbr _)|(go_at_call 75;with_reducible first|exact qag _|exact qbg _)));go_wp2_with fail
 refine (fail_any _ b s p1 (c::la) 0 (deep + 1) oa ends (by exact HR2.out.drewN _) 1).mono ?_
 rintro e w3 ⟨rfl,hR3,hg3⟩
 unfold zeroV
 have hz3:=keep hg3 HB4.out (by simp;omega)
 have hx3:=keep hg3 HB3.out (by simp;omega)
 have HG3:=Lib.hid (gr_same HG2.out (show w2.grownBy w3 (some b) from ⟨hg3.os,hg3.tape,hg3.output,hg3.size,hg3.block⟩))
 have hlt3:w.heap.size + 1 < w3.heap.size:=(Array.getElem?_eq_some_iff.1 hz3).1
 obtain ⟨z0,z1,z2,z3,z4,z5,z6,zf⟩:=zb_cells hz3
 have HZ3:=Lib.hid hz3
 have HX3:=Lib.hid hx3
 have HR3:=Lib.hid hR3;clear hR3
 clear hz3 hx3 hg3 c0 c1 c2 c3 c4 c5 cf d0 HG2 HR2 HB3 HB4
 go_wp2_with fail
 refine val_door HX3.out HZ3.out HR3.out HG3.out hbB hd0 (by omega) rfl ?_
 intro w' g1 g2 g3 g4
 exact ⟨_,rfl,⟨_,_,_,_,_,_,_,_,_,_,_,rfl⟩,⟨p1,_,oa,failB 0 1,ends,failB_ne _ _ (by decide),g1⟩,g2⟩
set_option maxRecDepth 100000 in
set_option maxHeartbeats 40000000 in
theorem val_num (pf:By→Nat) (W0:World) (hI:Init W0) (hpf:PFC pf W0) (w:World) (b:Nat) (s:ByteArray) (p l:By) (deep:Int) (hd0:0≤deep) (hd1:deep≤49) (odd ends:Bool) (hR:RdAt w b s p l 0 deep odd ends) (hs:s.size≤1000000000) (oa:Bool) (hE:Env W0 w) (hW0:W0.heap.size≤b) (c:UInt8) (la:By) (hP:passM false l odd=(c::la,oa)) (h40:((c.toNat:Int) == 40)=false) (hd:is2 (c::la) 60=false) (h60:((c.toNat:Int) == 60)=false) (h47:((c.toNat:Int) == 47)=false) (h91:((c.toNat:Int) == 91)=false) (hdl:isDelim (c.toNat:Int)=false) :
  Calls Tryz.prog 28 #[.pointer (some ⟨b,0,none⟩)] w fun e w'=>VPost w w' b s deep ends e (rdNum pf (c::la) oa):=by
 have HE:=Lib.hid hE;clear hE
 have HI:=Lib.hid hI;clear hI
 have Hpf:=Lib.hid hpf;clear hpf
 have hbB:=hR.lt
 have HR:=Lib.hid hR;clear hR
 have hal:=alloc2 w w.heap.size rfl (.cells #[.pointer (some ⟨b,0,none⟩)] 55 (0,0)) (.cells #[.int .i64 0,.int .i64 0,.int .i64 0,.float .f64 0,.string ⟨#[]⟩,.slice none 0 0,.slice none 0 0] 30 (0,0))
 have hmf:∀ (fn:Fn) (first cap:Array Value) (w:World),(Instr.makeFunc fn first cap).run Tryz.prog w=.ok (.func fn first cap) w:=fun _ _ _ _=>rfl
 go_enter_defers Tryz.func28,Tryz.ntmps28
 go_wp2_with fail
 refine (pass_any _ b s p l 0 deep odd ends (by exact (HR.out.alloc _).alloc _) (by omega)).mono ?_
 rintro e w1 ⟨rfl,⟨p1,hR1⟩,hg1⟩
 have hb1:=keep hg1 hal.1 (by simp;omega)
 have hb2:=keep hg1 hal.2 (by simp;omega)
 have hlt1:w.heap.size + 1 < w1.heap.size:=(Array.getElem?_eq_some_iff.1 hb2).1
 have HG1:=Lib.hid (gr_same (gr_alloc (gr_alloc (World.grownBy.refl w (some b)) _) _) hg1)
 have HB1:=Lib.hid hb1
 have HB2:=Lib.hid hb2
 have d0:w1.cell? ⟨w.heap.size,0,none⟩=some (.pointer (some ⟨b,0,none⟩)):=by simp [World.cell?,hb1]
 rw [hP] at hR1
 simp only at hR1
 obtain ⟨c0,c1,c2,c3,c4,c5,cf⟩:=hR1.cells
 have hsz1:=hR1.size
 have HR1:=Lib.hid hR1
 have hnb1:¬w.heap.size=b:=by omega
 have hnb2:¬w.heap.size + 1=b:=by omega
 have hp1:p1.length≤s.size:=by omega
 have Hsz1:=Lib.hid hsz1
 clear hg1 hal hb1 hb2 hR1 hsz1
 go_wp2_with fail
 have hlt:p1.length < s.size:=by have:=Hsz1.out;simp at this;omega
 obtain ⟨hk,hget⟩:=HR1.out.head
 have hle:¬s.size≤p1.length:=by omega
 have HR2:=Lib.hid (HR1.out.set3 (deep + 1))
 have HG2:=Lib.hid (gr_set HG1.out 3 (.int .i64 (deep + 1)))
 have hlt2:w.heap.size + 1 < (w1.setCell ⟨b,3,none⟩ (.int .i64 (deep + 1))).heap.size:=by simp;omega
 have HB3:=Lib.hid ((Below.heap_setCell w1 ⟨b,3,none⟩ (.int .i64 (deep + 1)) w.heap.size (by simp;omega)).trans HB1.out)
 have HB4:=Lib.hid ((Below.heap_setCell w1 ⟨b,3,none⟩ (.int .i64 (deep + 1)) (w.heap.size + 1) (by simp;omega)).trans HB2.out)
 obtain ⟨w2,hw2⟩:∃ w2,w2=w1.setCell ⟨b,3,none⟩ (.int .i64 (deep + 1)):=⟨_,rfl⟩
 rw [←hw2] at HR2 HG2 HB3 HB4 hlt2 ⊢
 clear hw2 HR1 HG1 HB1 HB2 c0 c1 c2 c3 c4 c5 cf d0 hlt1
 obtain ⟨c0,c1,c2,c3,c4,c5,cf⟩:=HR2.out.cells
 have d0:w2.cell? ⟨w.heap.size,0,none⟩=some (.pointer (some ⟨b,0,none⟩)):=by simp [World.cell?,HB3.out]
 go_quiet ((first|(go_at_call 42;with_reducible first|exact qaw _|exact qbw _)|(go_at_call 43;with_reducible first|exact qap _|exact qbp _)|(go_at_call 52;with_reducible first|exact qad _|exact qbd _)|(go_at_call 76;with_reducible first|exact qar _|exact qbr _)|(go_at_call 75;with_reducible first|exact qag _|exact qbg _)));go_wp2_with fail
 go_quiet ((first|(go_at_call 42;with_reducible first|exact qaw _|exact qbw _)|(go_at_call 43;with_reducible first|exact qap _|exact qbp _)|(go_at_call 52;with_reducible first|exact qad _|exact qbd _)|(go_at_call 76;with_reducible first|exact qar _|exact qbr _)|(go_at_call 75;with_reducible first|exact qag _|exact qbg _)));go_wp2_with fail
 refine (is_any _ b s p1 (c::la) 0 (deep + 1) oa ends (by exact HR2.out.drewN _) (by omega) ⟨#[60,60]⟩ (by decide)).mono ?_
 rintro e w2' ⟨rfl,n2,hw2'⟩
 have hpre:(⟨#[60,60]⟩:ByteArray).data.toList.isPrefixOf (c::la)=is2 (c::la) 60:=pre2 60 (c::la)
 rw [hpre,hd]
 clear hpre
 subst w2'
 go_wp2_with fail
 go_quiet ((first|(go_at_call 42;with_reducible first|exact qaw _|exact qbw _)|(go_at_call 43;with_reducible first|exact qap _|exact qbp _)|(go_at_call 52;with_reducible first|exact qad _|exact qbd _)|(go_at_call 76;with_reducible first|exact qar _|exact qbr _)|(go_at_call 75;with_reducible first|exact qag _|exact qbg _)));go_wp2_with fail
 go_quiet ((first|(go_at_call 42;with_reducible first|exact qaw _|exact qbw _)|(go_at_call 43;with_reducible first|exact qap _|exact qbp _)|(go_at_call 52;with_reducible first|exact qad _|exact qbd _)|(go_at_call 76;with_reducible first|exact qar _|exact qbr _)|(go_at_call 75;with_reducible first|exact qag _|exact qbg _)));go_wp2_with fail
 go_quiet ((first|(go_at_call 42;with_reducible first|exact qaw _|exact qbw _)|(go_at_call 43;with_reducible first|exact qap _|exact qbp _)|(go_at_call 52;with_reducible first|exact qad _|exact qbd _)|(go_at_call 76;with_reducible first|exact qar _|exact qbr _)|(go_at_call 75;with_reducible first|exact qag _|exact qbg _)));go_wp2_with fail
 go_quiet ((first|(go_at_call 42;with_reducible first|exact qaw _|exact qbw _)|(go_at_call 43;with_reducible first|exact qap _|exact qbp _)|(go_at_call 52;with_reducible first|exact qad _|exact qbd _)|(go_at_call 76;with_reducible first|exact qar _|exact qbr _)|(go_at_call 75;with_reducible first|exact qag _|exact qbg _)));go_wp2_with fail
 refine (num53_any pf W0 _ HI.out Hpf.out (by exact HE.out.grown (gr_drewN HG2.out _) (fun k hk=>by injection hk with hk;omega)) b s p1 (c::la) (deep + 1) oa ends (by exact HR2.out.drewN _) (by omega) hW0).mono ?_
 intro e w3 hP3
 obtain ⟨R,hRe⟩:∃ R,R=rdNum pf (c::la) oa:=⟨_,rfl⟩
 rw [←hRe] at hP3
 have HRe:=Lib.hid hRe;clear hRe
 cases R with
 | none =>
  obtain ⟨rfl,⟨p3,l3,o3,bad3,hbad3,hR3⟩,hg3⟩:=hP3
  unfold zeroV
  have hz3:=keep hg3 HB4.out (by simp;omega)
  have hx3:=keep hg3 HB3.out (by simp;omega)
  have HG3:=Lib.hid (gr_same HG2.out (show w2.grownBy w3 (some b) from ⟨hg3.os,hg3.tape,hg3.output,hg3.size,hg3.block⟩))
  have hlt3:w.heap.size + 1 < w3.heap.size:=(Array.getElem?_eq_some_iff.1 hz3).1
  obtain ⟨z0,z1,z2,z3,z4,z5,z6,zf⟩:=zb_cells hz3
  have HZ3:=Lib.hid hz3
  have HX3:=Lib.hid hx3
  have HR3:=Lib.hid hR3;clear hR3
  clear hz3 hx3 hg3 c0 c1 c2 c3 c4 c5 cf d0 HG2 HR2 HB3 HB4
  go_wp2_with fail
  refine val_door HX3.out HZ3.out HR3.out HG3.out hbB hd0 (by omega) rfl ?_
  intro w' g1 g2 g3 g4
  rw [←HRe.out]
  exact ⟨_,rfl,⟨_,_,_,_,_,_,_,_,_,_,_,rfl⟩,⟨p3,l3,o3,bad3,ends,hbad3,g1⟩,g2⟩
 | some q =>
  obtain ⟨x,r,o2⟩:=q
  obtain ⟨rfl,⟨p3,hR3⟩,hg3⟩:=hP3
  unfold valOf nilS
  have hz3:=keep hg3 HB4.out (by simp;omega)
  have hx3:=keep hg3 HB3.out (by simp;omega)
  have HG3:=Lib.hid (gr_same HG2.out (show w2.grownBy w3 (some b) from ⟨hg3.os,hg3.tape,hg3.output,hg3.size,hg3.block⟩))
  have hlt3:w.heap.size + 1 < w3.heap.size:=(Array.getElem?_eq_some_iff.1 hz3).1
  obtain ⟨z0,z1,z2,z3,z4,z5,z6,zf⟩:=zb_cells hz3
  have HZ3:=Lib.hid hz3
  have HX3:=Lib.hid hx3
  have HR3:=Lib.hid hR3;clear hR3
  clear hz3 hx3 hg3 c0 c1 c2 c3 c4 c5 cf d0 HG2 HR2 HB3 HB4
  go_wp2_with fail
  refine val_door HX3.out HZ3.out HR3.out HG3.out hbB hd0 (by omega) rfl ?_
  intro w' g1 g2 g3 g4
  rw [←HRe.out]
  exact ⟨nilS,nilS,fun _=>False,rfl,num_plain HRe.out.symm _ _,fun k hk=>hk.elim,⟨p3,g1⟩,g2⟩
end Go.Proofs.YtfkecmlmnhbmoaaGreatDoor
