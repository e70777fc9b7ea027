/- FnParse: the texts C1 C2 C3 G29 G30 of the workbench, laid together. -/
import Derived.Test.YtfkecmlmnhbmoaaGreatDoorProg
import Derived.WalkKit
import Derived.WalkLawsBesides
import Derived.WalkSpells
import Derived.BigQuiet
import Derived.BigRegion
import Derived.Deep.QuietTactic
import Derived.Deep.RegionHeld3
import Derived.Deep.LoopGhost
import Derived.StillTailTactics
import Derived.Lib.Hide
import Derived.Laws.EntriesVeiled
import Derived.Defers
import Derived.Recover
import Derived.Test.YtfkecmlmnhbmoaaGreatDoorZ25
import Derived.Test.YtfkecmlmnhbmoaaGreatDoorZ38
set_option linter.unusedVariables false
set_option linter.unusedSimpArgs false
namespace Go.Proofs.YtfkecmlmnhbmoaaGreatDoor
open Go Go.RowKit
set_option maxRecDepth 100000 in
set_option maxHeartbeats 40000000 in
theorem val1_d (w:World) (b bx:Nat) (deep:Int) (u:FrameMode) (hx:w.cell? ⟨bx,0,none⟩=some (.pointer (some ⟨b,0,none⟩))) (h3:w.cell? ⟨b,3,none⟩=some (.int .i64 deep)) (hf:w.frozen? ⟨b,3,none⟩=false) (hd1:-1000≤deep) (hd2:deep≤1000) :
    CallsD Tryz.prog 44 #[.pointer (some ⟨bx,0,none⟩)] u w fun e u' w'=>u'=u∧(e=.returned (.tuple #[])∧w'=w.setCell ⟨b,3,none⟩ (.int .i64 (deep - 1))):=by
  go_enter_d Tryz.func44,Tryz.ntmps44
  go_wp2_with fail
  go_end0
  exact ⟨rfl,rfl⟩
set_option maxRecDepth 100000 in
set_option maxHeartbeats 40000000 in
theorem valB_any:ValB:=by
  intro w b s p l bad deep odd ends hs hR hbad
  have hbd:(bad != 0)=true:=by simpa using hbad
  have hbB:=hR.lt
  have HR:=Lib.hid hR;clear hR
  have Hbad:=Lib.hid hbad;clear hbad
  have hal:=alloc2 w w.heap.size rfl (.cells #[.pointer (some ⟨b,0,none⟩)] 55 (0,0)) (.cells #[.int .i64 0,.int .i64 0,.int .i64 0,.float .f64 0,.string ⟨#[]⟩,.slice none 0 0,.slice none 0 0] 30 (0,0))
  have hmf:∀ (fn:Fn) (first cap:Array Value) (w:World),(Instr.makeFunc fn first cap).run Tryz.prog w=.ok (.func fn first cap) w:=fun _ _ _ _=>rfl
  go_enter_defers Tryz.func28,Tryz.ntmps28
  go_wp2_with fail
  refine (pass_any _ b s p l bad deep odd ends (by exact (HR.out.alloc _).alloc _) (by omega)).mono ?_
  rintro e w1 ⟨rfl,⟨p1,hR1⟩,hg1⟩
  have hb1:=keep hg1 hal.1 (by simp;omega)
  have hb2:=keep hg1 hal.2 (by simp;omega)
  have d0:w1.cell? ⟨w.heap.size,0,none⟩=some (.pointer (some ⟨b,0,none⟩)):=by simp [World.cell?,hb1]
  obtain ⟨z0,z1,z2,z3,z4,z5,z6,zf⟩:=zb_cells hb2
  obtain ⟨c0,c1,c2,c3,c4,c5,cf⟩:=hR1.cells
  have hbz:¬b=w.heap.size + 1:=by omega
  have hbz2:¬w.heap.size=w.heap.size + 1:=by omega
  have HG1:=Lib.hid (gr_same (gr_alloc (gr_alloc (World.grownBy.refl w (some b)) _) _) hg1)
  have HR1:=Lib.hid hR1;clear hR1
  clear hg1 hal hb1 hb2
  go_wp2_with fail
  refine Exists.intro zeroV ⟨by simp [results,Tryz.results28,go_sem,zeroV,z0,z1,z2,z3,z4,z5,z6,hbz2],?_⟩
  exact ⟨rfl,⟨p1,(passM false l odd).1,(passM false l odd).2,(by repeat (first | with_reducible exact HR1.out | with_reducible apply RdAt.alloc | with_reducible apply RdAt.set4 | ((with_reducible refine RdAt.setO ?_ ?_ _ _);rotate_left;(first | omega | (simp;omega)))))⟩,(by repeat (first | with_reducible exact HG1.out | with_reducible apply gr_alloc | with_reducible apply gr_drewN | with_reducible apply gr_drew | with_reducible apply gr_set | ((with_reducible refine gr_setM ?_ ?_ _ _);rotate_left;(first | omega | (simp;omega)))))⟩
end Go.Proofs.YtfkecmlmnhbmoaaGreatDoor
namespace Go.Proofs.YtfkecmlmnhbmoaaGreatDoor
open Go Go.RowKit
def set7 (w:World) (B:Nat) (v0 v1 v2 v3 v4 v5 v6:Value):World :=
  ((((((w.setCell ⟨B,0,none⟩ v0).setCell ⟨B,1,none⟩ v1).setCell ⟨B,2,none⟩ v2).setCell ⟨B,3,none⟩ v3).setCell ⟨B,4,none⟩ v4).setCell ⟨B,5,none⟩ v5).setCell ⟨B,6,none⟩ v6
theorem set7_other (w:World) (B k:Nat) (v0 v1 v2 v3 v4 v5 v6:Value) (h:k≠B):(set7 w B v0 v1 v2 v3 v4 v5 v6).heap[k]?=w.heap[k]?:=by
  unfold set7
  repeat rw [Below.heap_setCell _ _ _ _ (by simpa using h)]
theorem set7_at {w:World} {B:Nat} {a0 a1 a2 a3 a4 a5 a6:Value} {e:TypeId} (h:w.heap[B]?=some (.cells #[a0,a1,a2,a3,a4,a5,a6] e (0,0))) (v0 v1 v2 v3 v4 v5 v6:Value):(set7 w B v0 v1 v2 v3 v4 v5 v6).heap[B]?=some (.cells #[v0,v1,v2,v3,v4,v5,v6] e (0,0)):=by
  simp [set7,World.setCell,Array.getElem?_modify,h]
theorem set7_gr {w w3:World} {r:Option Nat} (h:w.grownBy w3 r) {B:Nat} (hB:w.heap.size≤B) (v0 v1 v2 v3 v4 v5 v6:Value):w.grownBy (set7 w3 B v0 v1 v2 v3 v4 v5 v6) r:=by
  unfold set7
  repeat' apply gr_setM
  all_goals first | exact h | exact hB
theorem set7_size (w:World) (B:Nat) (v0 v1 v2 v3 v4 v5 v6:Value):(set7 w B v0 v1 v2 v3 v4 v5 v6).heap.size=w.heap.size:=by simp [set7]
set_option maxRecDepth 100000 in
set_option maxHeartbeats 40000000 in
theorem val_door {w w3:World} {b:Nat} {s:ByteArray} {p3 l3:By} {bad deep:Int} {o en:Bool} {v0 v1 v2 v3 v4 v5 v6:Value} (hx:w3.heap[w.heap.size]?=some (.cells #[.pointer (some ⟨b,0,none⟩)] 55 (0,0))) (hz:w3.heap[w.heap.size + 1]?=some (.cells #[.int .i64 0,.int .i64 0,.int .i64 0,.float .f64 0,.string ⟨#[]⟩,.slice none 0 0,.slice none 0 0] 30 (0,0))) (hR:RdAt w3 b s p3 l3 bad (deep + 1) o en)
    (hg:w.grownBy w3 (some b)) (hbB:b < w.heap.size) (hd0:0≤deep) (hd1:deep≤50) {tmps:Array Value} (ht:tmps.getD 2 undef=.pointer (some ⟨w.heap.size + 1,0,none⟩)) {R:Ending→World→Prop}
    (hK:∀ w',RdAt w' b s p3 l3 bad deep o en→w.grownBy w' (some b)→(∀ k,k≠b→k≠w.heap.size + 1→w'.heap[k]?=w3.heap[k]?)→w'.heap.size=w3.heap.size→R (.returned (.agg #[v0,v1,v2,v3,v4,v5,v6])) w') :
    bodyPostD Tryz.prog Tryz.f28 R Exit.ret { tmps:=tmps,defers:=[{ target:=.fn (.func 44) #[.pointer (some ⟨w.heap.size,0,none⟩)],args:=#[] }] } (set7 w3 (w.heap.size + 1) v0 v1 v2 v3 v4 v5 v6):=by
  have hx4:(set7 w3 (w.heap.size + 1) v0 v1 v2 v3 v4 v5 v6).heap[w.heap.size]?=some (.cells #[.pointer (some ⟨b,0,none⟩)] 55 (0,0)):=(set7_other _ _ _ _ _ _ _ _ _ _ (by omega)).trans hx
  have hR4:RdAt (set7 w3 (w.heap.size + 1) v0 v1 v2 v3 v4 v5 v6) b s p3 l3 bad (deep + 1) o en:=hR.of_heap (set7_other _ _ _ _ _ _ _ _ _ _ (by omega))
  have hz4:=set7_at hz v0 v1 v2 v3 v4 v5 v6
  have hg4:=set7_gr hg (B:=w.heap.size + 1) (by omega) v0 v1 v2 v3 v4 v5 v6
  have hs4:=set7_size w3 (w.heap.size + 1) v0 v1 v2 v3 v4 v5 v6
  have ho4:∀ k,k≠w.heap.size + 1→(set7 w3 (w.heap.size + 1) v0 v1 v2 v3 v4 v5 v6).heap[k]?=w3.heap[k]?:=fun k hk=>set7_other _ _ _ _ _ _ _ _ _ _ hk
  generalize set7 w3 (w.heap.size + 1) v0 v1 v2 v3 v4 v5 v6=w4 at *
  refine leaves_cons (f:=44) (args:=#[.pointer (some ⟨w.heap.size,0,none⟩)]) (by simp) (by simp [go_sem]) ?_
  refine (val1_d w4 b w.heap.size (deep + 1) .returning (by simp [World.cell?,hx4]) hR4.cells.2.2.2.1 (hR4.cells.2.2.2.2.2.2 3) (by omega) (by omega)).mono ?_
  rintro e u' w'' ⟨rfl,rfl,rfl⟩
  have hR5:=hR4.set3 (deep + 1 - 1)
  rw [show deep + 1 - 1=deep by omega] at hR5 ⊢
  have hz5:(w4.setCell ⟨b,3,none⟩ (.int .i64 deep)).heap[w.heap.size + 1]?=some (.cells #[v0,v1,v2,v3,v4,v5,v6] 30 (0,0)):=(Below.heap_setCell _ _ _ _ (by simp;omega)).trans hz4
  have hg5:=gr_set hg4 3 (.int .i64 deep)
  have ho5:∀ k,k≠b→k≠w.heap.size + 1→(w4.setCell ⟨b,3,none⟩ (.int .i64 deep)).heap[k]?=w3.heap[k]?:=fun k h1 h2=>(Below.heap_setCell _ _ _ _ (by simpa using h1)).trans (ho4 k h2)
  have hs5:(w4.setCell ⟨b,3,none⟩ (.int .i64 deep)).heap.size=w3.heap.size:=by simpa using hs4
  generalize w4.setCell ⟨b,3,none⟩ (.int .i64 deep)=w5 at *
  obtain ⟨y0,y1,y2,y3,y4,y5,y6,yf⟩:=cells7 hz5
  refine Exists.intro (.agg #[v0,v1,v2,v3,v4,v5,v6]) ⟨by simp only [Array.getD_eq_getD_getElem?] at ht;simp [results,Tryz.results28,go_sem,ht,y0,y1,y2,y3,y4,y5,y6],?_⟩
  exact hK _ hR5 hg5 ho5 hs5
set_option maxRecDepth 100000 in
set_option maxHeartbeats 40000000 in
theorem val_lit (w:World) (b:Nat) (s:ByteArray) (p l:By) (deep:Int) (hd0:0≤deep) (hd1:deep≤49) (odd ends:Bool) (hR:RdAt w b s p l 0 deep odd ends) (hs:s.size≤1000000000)
    (c:UInt8) (la:By) (oa:Bool) (hP:passM false l odd=(c::la,oa)) (h40:((c.toNat:Int) == 40)=true) :
    Calls Tryz.prog 28 #[.pointer (some ⟨b,0,none⟩)] w fun e w'=>VPost w w' b s deep ends e ((litF (c::la) 0 []).map fun r=>(.str r.1,r.2,oa)):=by
  have hbB:=hR.lt
  have HR:=Lib.hid hR;clear hR
  have hal:=alloc2 w w.heap.size rfl (.cells #[.pointer (some ⟨b,0,none⟩)] 55 (0,0)) (.cells #[.int .i64 0,.int .i64 0,.int .i64 0,.float .f64 0,.string ⟨#[]⟩,.slice none 0 0,.slice none 0 0] 30 (0,0))
  have hmf:∀ (fn:Fn) (first cap:Array Value) (w:World),(Instr.makeFunc fn first cap).run Tryz.prog w=.ok (.func fn first cap) w:=fun _ _ _ _=>rfl
  go_enter_defers Tryz.func28,Tryz.ntmps28
  go_wp2_with fail
  refine (pass_any _ b s p l 0 deep odd ends (by exact (HR.out.alloc _).alloc _) (by omega)).mono ?_
  rintro e w1 ⟨rfl,⟨p1,hR1⟩,hg1⟩
  have hb1:=keep hg1 hal.1 (by simp;omega)
  have hb2:=keep hg1 hal.2 (by simp;omega)
  have hlt1:w.heap.size + 1 < w1.heap.size:=(Array.getElem?_eq_some_iff.1 hb2).1
  have HG1:=Lib.hid (gr_same (gr_alloc (gr_alloc (World.grownBy.refl w (some b)) _) _) hg1)
  have HB1:=Lib.hid hb1
  have HB2:=Lib.hid hb2
  have d0:w1.cell? ⟨w.heap.size,0,none⟩=some (.pointer (some ⟨b,0,none⟩)):=by simp [World.cell?,hb1]
  rw [hP] at hR1
  simp only at hR1
  obtain ⟨c0,c1,c2,c3,c4,c5,cf⟩:=hR1.cells
  have hsz1:=hR1.size
  have HR1:=Lib.hid hR1
  have hnb1:¬w.heap.size=b:=by omega
  have hnb2:¬w.heap.size + 1=b:=by omega
  have hp1:p1.length≤s.size:=by omega
  have Hsz1:=Lib.hid hsz1
  clear hg1 hal hb1 hb2 hR1 hsz1
  go_wp2_with fail
  have hlt:p1.length < s.size:=by have:=Hsz1.out;simp at this;omega
  obtain ⟨hk,hget⟩:=HR1.out.head
  have hle:¬s.size≤p1.length:=by omega
  have HR2:=Lib.hid (HR1.out.set3 (deep + 1))
  have HG2:=Lib.hid (gr_set HG1.out 3 (.int .i64 (deep + 1)))
  have hlt2:w.heap.size + 1 < (w1.setCell ⟨b,3,none⟩ (.int .i64 (deep + 1))).heap.size:=by simp;omega
  have HB3:=Lib.hid ((Below.heap_setCell w1 ⟨b,3,none⟩ (.int .i64 (deep + 1)) w.heap.size (by simp;omega)).trans HB1.out)
  have HB4:=Lib.hid ((Below.heap_setCell w1 ⟨b,3,none⟩ (.int .i64 (deep + 1)) (w.heap.size + 1) (by simp;omega)).trans HB2.out)
  obtain ⟨w2,hw2⟩:∃ w2,w2=w1.setCell ⟨b,3,none⟩ (.int .i64 (deep + 1)):=⟨_,rfl⟩
  rw [←hw2] at HR2 HG2 HB3 HB4 hlt2 ⊢
  clear hw2 HR1 HG1 HB1 HB2 c0 c1 c2 c3 c4 c5 cf d0 hlt1
  obtain ⟨c0,c1,c2,c3,c4,c5,cf⟩:=HR2.out.cells
  have d0:w2.cell? ⟨w.heap.size,0,none⟩=some (.pointer (some ⟨b,0,none⟩)):=by simp [World.cell?,HB3.out]
  go_quiet ((first|(go_at_call 42;with_reducible first|exact qaw _|exact qbw _)|(go_at_call 43;with_reducible first|exact qap _|exact qbp _)|(go_at_call 52;with_reducible first|exact qad _|exact qbd _)|(go_at_call 76;with_reducible first|exact qar _|exact qbr _)|(go_at_call 75;with_reducible first|exact qag _|exact qbg _)));go_wp2_with fail
  go_quiet ((first|(go_at_call 42;with_reducible first|exact qaw _|exact qbw _)|(go_at_call 43;with_reducible first|exact qap _|exact qbp _)|(go_at_call 52;with_reducible first|exact qad _|exact qbd _)|(go_at_call 76;with_reducible first|exact qar _|exact qbr _)|(go_at_call 75;with_reducible first|exact qag _|exact qbg _)));go_wp2_with fail
  refine (lit_any _ b s p1 (c::la) 0 (deep + 1) oa ends (by exact HR2.out.drewN _) (by omega)).mono ?_
  intro e w3 hP3
  cases hlit:litF (c::la) 0 [] with
  | none =>
    rw [hlit] at hP3
    obtain ⟨rfl,⟨p3,hR3⟩,hg3⟩:=hP3
    have hz3:=keep hg3 HB4.out (by simp;omega)
    have hx3:=keep hg3 HB3.out (by simp;omega)
    have HG3:=Lib.hid (gr_same HG2.out (show w2.grownBy w3 (some b) from ⟨hg3.os,hg3.tape,hg3.output,hg3.size,hg3.block⟩))
    have hlt3:w.heap.size + 1 < w3.heap.size:=(Array.getElem?_eq_some_iff.1 hz3).1
    obtain ⟨z0,z1,z2,z3,z4,z5,z6,zf⟩:=zb_cells hz3
    have HZ3:=Lib.hid hz3
    have HX3:=Lib.hid hx3
    have HR3:=Lib.hid hR3;clear hR3
    clear hz3 hx3 hg3 c0 c1 c2 c3 c4 c5 cf d0 HG2 HR2 HB3 HB4
    go_wp2_with fail
    refine val_door HX3.out HZ3.out HR3.out HG3.out hbB hd0 (by omega) rfl ?_
    intro w' h1 h2 h3 h4
    rw [hlit]
    exact ⟨_,rfl,⟨_,_,_,_,_,_,_,_,_,_,_,rfl⟩,⟨p3,[],oa,failB 0 1,true,failB_ne _ _ (by decide),h1⟩,h2⟩
  | some q =>
    obtain ⟨t,r⟩:=q
    rw [hlit] at hP3
    obtain ⟨rfl,⟨p3,hR3⟩,hg3⟩:=hP3
    have hz3:=keep hg3 HB4.out (by simp;omega)
    have hx3:=keep hg3 HB3.out (by simp;omega)
    have HG3:=Lib.hid (gr_same HG2.out (show w2.grownBy w3 (some b) from ⟨hg3.os,hg3.tape,hg3.output,hg3.size,hg3.block⟩))
    have hlt3:w.heap.size + 1 < w3.heap.size:=(Array.getElem?_eq_some_iff.1 hz3).1
    obtain ⟨z0,z1,z2,z3,z4,z5,z6,zf⟩:=zb_cells hz3
    have HZ3:=Lib.hid hz3
    have HX3:=Lib.hid hx3
    have HR3:=Lib.hid hR3;clear hR3
    clear hz3 hx3 hg3 c0 c1 c2 c3 c4 c5 cf d0 HG2 HR2 HB3 HB4
    go_wp2_with fail
    refine val_door HX3.out HZ3.out HR3.out HG3.out hbB hd0 (by omega) rfl ?_
    intro w' h1 h2 h3 h4
    rw [hlit]
    exact ⟨nilS,nilS,fun _=>False,rfl,IsV.plain (by trivial),fun k hk=>hk.elim,⟨p3,h1⟩,h2⟩
end Go.Proofs.YtfkecmlmnhbmoaaGreatDoor
namespace Go.Proofs.YtfkecmlmnhbmoaaGreatDoor
open Go Go.RowKit
def hexR (h:Int × By × By × Bool):Rd PV:=if h.1 == 0 then some (.str h.2.1,h.2.2.1,h.2.2.2) else none
set_option maxRecDepth 100000 in
set_option maxHeartbeats 40000000 in
theorem val_nil (w:World) (b:Nat) (s:ByteArray) (p l:By) (deep:Int) (hd0:0≤deep) (hd1:deep≤49) (odd ends:Bool) (hR:RdAt w b s p l 0 deep odd ends) (hs:s.size≤1000000000) (oa:Bool) (hP:passM false l odd=([],oa)) :
    Calls Tryz.prog 28 #[.pointer (some ⟨b,0,none⟩)] w fun e w'=>VPost w w' b s deep ends e none:=by
  have hbB:=hR.lt
  have HR:=Lib.hid hR;clear hR
  have hal:=alloc2 w w.heap.size rfl (.cells #[.pointer (some ⟨b,0,none⟩)] 55 (0,0)) (.cells #[.int .i64 0,.int .i64 0,.int .i64 0,.float .f64 0,.string ⟨#[]⟩,.slice none 0 0,.slice none 0 0] 30 (0,0))
  have hmf:∀ (fn:Fn) (first cap:Array Value) (w:World),(Instr.makeFunc fn first cap).run Tryz.prog w=.ok (.func fn first cap) w:=fun _ _ _ _=>rfl
  go_enter_defers Tryz.func28,Tryz.ntmps28
  go_wp2_with fail
  refine (pass_any _ b s p l 0 deep odd ends (by exact (HR.out.alloc _).alloc _) (by omega)).mono ?_
  rintro e w1 ⟨rfl,⟨p1,hR1⟩,hg1⟩
  have hb1:=keep hg1 hal.1 (by simp;omega)
  have hb2:=keep hg1 hal.2 (by simp;omega)
  have hlt1:w.heap.size + 1 < w1.heap.size:=(Array.getElem?_eq_some_iff.1 hb2).1
  have HG1:=Lib.hid (gr_same (gr_alloc (gr_alloc (World.grownBy.refl w (some b)) _) _) hg1)
  have HB1:=Lib.hid hb1
  have HB2:=Lib.hid hb2
  have d0:w1.cell? ⟨w.heap.size,0,none⟩=some (.pointer (some ⟨b,0,none⟩)):=by simp [World.cell?,hb1]
  rw [hP] at hR1
  simp only at hR1
  obtain ⟨c0,c1,c2,c3,c4,c5,cf⟩:=hR1.cells
  have hsz1:=hR1.size
  have HR1:=Lib.hid hR1
  have hnb1:¬w.heap.size=b:=by omega
  have hnb2:¬w.heap.size + 1=b:=by omega
  have hp1:p1.length≤s.size:=by omega
  have Hsz1:=Lib.hid hsz1
  clear hg1 hal hb1 hb2 hR1 hsz1
  go_wp2_with fail
  have hle:s.size≤p1.length:=by have:=Hsz1.out;simp at this;omega
  have HR2:=Lib.hid (HR1.out.set3 (deep + 1))
  have HG2:=Lib.hid (gr_set HG1.out 3 (.int .i64 (deep + 1)))
  have hlt2:w.heap.size + 1 < (w1.setCell ⟨b,3,none⟩ (.int .i64 (deep + 1))).heap.size:=by simp;omega
  have HB3:=Lib.hid ((Below.heap_setCell w1 ⟨b,3,none⟩ (.int .i64 (deep + 1)) w.heap.size (by simp;omega)).trans HB1.out)
  have HB4:=Lib.hid ((Below.heap_setCell w1 ⟨b,3,none⟩ (.int .i64 (deep + 1)) (w.heap.size + 1) (by simp;omega)).trans HB2.out)
  obtain ⟨w2,hw2⟩:∃ w2,w2=w1.setCell ⟨b,3,none⟩ (.int .i64 (deep + 1)):=⟨_,rfl⟩
  rw [←hw2] at HR2 HG2 HB3 HB4 hlt2 ⊢
  clear hw2 HR1 HG1 HB1 HB2 c0 c1 c2 c3 c4 c5 cf d0 hlt1
  obtain ⟨c0,c1,c2,c3,c4,c5,cf⟩:=HR2.out.cells
  have d0:w2.cell? ⟨w.heap.size,0,none⟩=some (.pointer (some ⟨b,0,none⟩)):=by simp [World.cell?,HB3.out]
  go_quiet ((first|(go_at_call 42;with_reducible first|exact qaw _|exact qbw _)|(go_at_call 43;with_reducible first|exact qap _|exact qbp _)|(go_at_call 52;with_reducible first|exact qad _|exact qbd _)|(go_at_call 76;with_reducible first|exact qar _|exact qbr _)|(go_at_call 75;with_reducible first|exact qag _|exact qbg _)));go_wp2_with fail
  cases ends
  · (refine wp_region_quiet_tail 14 (by kernel_rfl) (by kernel_rfl) ?_;simp only [List.take_succ_cons,List.take_zero,List.drop_succ_cons,List.drop_zero];(repeat (go_big_quiet_step ((first|(go_at_call 42;with_reducible first|exact qaw _|exact qbw _)|(go_at_call 43;with_reducible first|exact qap _|exact qbp _)|(go_at_call 52;with_reducible first|exact qad _|exact qbd _)|(go_at_call 76;with_reducible first|exact qar _|exact qbr _)|(go_at_call 75;with_reducible first|exact qag _|exact qbg _)))));refine wpQuiet_nil ?_;intro _ hwt;obtain ⟨nt,hwt'⟩:=hwt;subst hwt';go_wp2_with fail)
    refine (fail_any _ b s p1 [] 0 (deep + 1) oa (decide (1 < deep + 1)) (by exact (HR2.out.drewN _).set5 _) 1).mono ?_
    rintro e w3 ⟨rfl,hR3,hg3'⟩
    have hg3:w2.grownBy w3 (some b):=gr_same (gr_set (gr_drewN (World.grownBy.refl w2 (some b)) _) _ _) hg3'
    clear hg3'
    unfold zeroV
    have hz3:=keep hg3 HB4.out (by simp;omega)
    have hx3:=keep hg3 HB3.out (by simp;omega)
    have HG3:=Lib.hid (gr_same HG2.out (show w2.grownBy w3 (some b) from ⟨hg3.os,hg3.tape,hg3.output,hg3.size,hg3.block⟩))
    have hlt3:w.heap.size + 1 < w3.heap.size:=(Array.getElem?_eq_some_iff.1 hz3).1
    obtain ⟨z0,z1,z2,z3,z4,z5,z6,zf⟩:=zb_cells hz3
    have HZ3:=Lib.hid hz3
    have HX3:=Lib.hid hx3
    have HR3:=Lib.hid hR3;clear hR3
    clear hz3 hx3 hg3 c0 c1 c2 c3 c4 c5 cf d0 HG2 HR2 HB3 HB4
    go_wp2_with fail
    refine val_door HX3.out HZ3.out HR3.out HG3.out hbB hd0 (by omega) rfl ?_
    intro w' g1 g2 g3 g4
    exact ⟨_,rfl,⟨_,_,_,_,_,_,_,_,_,_,_,rfl⟩,⟨p1,[],oa,failB 0 1,(decide (1 < deep + 1)),failB_ne _ _ (by decide),g1⟩,g2⟩
  · (refine wp_region_quiet_tail 14 (by kernel_rfl) (by kernel_rfl) ?_;simp only [List.take_succ_cons,List.take_zero,List.drop_succ_cons,List.drop_zero];(repeat (go_big_quiet_step ((first|(go_at_call 42;with_reducible first|exact qaw _|exact qbw _)|(go_at_call 43;with_reducible first|exact qap _|exact qbp _)|(go_at_call 52;with_reducible first|exact qad _|exact qbd _)|(go_at_call 76;with_reducible first|exact qar _|exact qbr _)|(go_at_call 75;with_reducible first|exact qag _|exact qbg _)))));refine wpQuiet_nil ?_;intro _ hwt;obtain ⟨nt,hwt'⟩:=hwt;subst hwt';go_wp2_with fail)
    refine (fail_any _ b s p1 [] 0 (deep + 1) oa (true) (by exact (HR2.out.drewN _).set5 _) 1).mono ?_
    rintro e w3 ⟨rfl,hR3,hg3'⟩
    have hg3:w2.grownBy w3 (some b):=gr_same (gr_set (gr_drewN (World.grownBy.refl w2 (some b)) _) _ _) hg3'
    clear hg3'
    unfold zeroV
    have hz3:=keep hg3 HB4.out (by simp;omega)
    have hx3:=keep hg3 HB3.out (by simp;omega)
    have HG3:=Lib.hid (gr_same HG2.out (show w2.grownBy w3 (some b) from ⟨hg3.os,hg3.tape,hg3.output,hg3.size,hg3.block⟩))
    have hlt3:w.heap.size + 1 < w3.heap.size:=(Array.getElem?_eq_some_iff.1 hz3).1
    obtain ⟨z0,z1,z2,z3,z4,z5,z6,zf⟩:=zb_cells hz3
    have HZ3:=Lib.hid hz3
    have HX3:=Lib.hid hx3
    have HR3:=Lib.hid hR3;clear hR3
    clear hz3 hx3 hg3 c0 c1 c2 c3 c4 c5 cf d0 HG2 HR2 HB3 HB4
    go_wp2_with fail
    refine val_door HX3.out HZ3.out HR3.out HG3.out hbB hd0 (by omega) rfl ?_
    intro w' g1 g2 g3 g4
    exact ⟨_,rfl,⟨_,_,_,_,_,_,_,_,_,_,_,rfl⟩,⟨p1,[],oa,failB 0 1,(true),failB_ne _ _ (by decide),g1⟩,g2⟩
set_option maxRecDepth 100000 in
set_option maxHeartbeats 40000000 in
theorem val_hex (w:World) (b:Nat) (s:ByteArray) (p l:By) (deep:Int) (hd0:0≤deep) (hd1:deep≤49) (odd ends:Bool) (hR:RdAt w b s p l 0 deep odd ends) (hs:s.size≤1000000000) (oa:Bool) (c:UInt8) (la:By) (hP:passM false l odd=(c::la,oa)) (h40:((c.toNat:Int) == 40)=false) (hd:is2 (c::la) 60=false) (h60:((c.toNat:Int) == 60)=true) :
    Calls Tryz.prog 28 #[.pointer (some ⟨b,0,none⟩)] w fun e w'=>VPost w w' b s deep ends e (hexR (hexF la false 0 [] oa)):=by
  have hbB:=hR.lt
  have HR:=Lib.hid hR;clear hR
  have hal:=alloc2 w w.heap.size rfl (.cells #[.pointer (some ⟨b,0,none⟩)] 55 (0,0)) (.cells #[.int .i64 0,.int .i64 0,.int .i64 0,.float .f64 0,.string ⟨#[]⟩,.slice none 0 0,.slice none 0 0] 30 (0,0))
  have hmf:∀ (fn:Fn) (first cap:Array Value) (w:World),(Instr.makeFunc fn first cap).run Tryz.prog w=.ok (.func fn first cap) w:=fun _ _ _ _=>rfl
  go_enter_defers Tryz.func28,Tryz.ntmps28
  go_wp2_with fail
  refine (pass_any _ b s p l 0 deep odd ends (by exact (HR.out.alloc _).alloc _) (by omega)).mono ?_
  rintro e w1 ⟨rfl,⟨p1,hR1⟩,hg1⟩
  have hb1:=keep hg1 hal.1 (by simp;omega)
  have hb2:=keep hg1 hal.2 (by simp;omega)
  have hlt1:w.heap.size + 1 < w1.heap.size:=(Array.getElem?_eq_some_iff.1 hb2).1
  have HG1:=Lib.hid (gr_same (gr_alloc (gr_alloc (World.grownBy.refl w (some b)) _) _) hg1)
  have HB1:=Lib.hid hb1
  have HB2:=Lib.hid hb2
  have d0:w1.cell? ⟨w.heap.size,0,none⟩=some (.pointer (some ⟨b,0,none⟩)):=by simp [World.cell?,hb1]
  rw [hP] at hR1
  simp only at hR1
  obtain ⟨c0,c1,c2,c3,c4,c5,cf⟩:=hR1.cells
  have hsz1:=hR1.size
  have HR1:=Lib.hid hR1
  have hnb1:¬w.heap.size=b:=by omega
  have hnb2:¬w.heap.size + 1=b:=by omega
  have hp1:p1.length≤s.size:=by omega
  have Hsz1:=Lib.hid hsz1
  clear hg1 hal hb1 hb2 hR1 hsz1
  go_wp2_with fail
  have hlt:p1.length < s.size:=by have:=Hsz1.out;simp at this;omega
  obtain ⟨hk,hget⟩:=HR1.out.head
  have hle:¬s.size≤p1.length:=by omega
  have HR2:=Lib.hid (HR1.out.set3 (deep + 1))
  have HG2:=Lib.hid (gr_set HG1.out 3 (.int .i64 (deep + 1)))
  have hlt2:w.heap.size + 1 < (w1.setCell ⟨b,3,none⟩ (.int .i64 (deep + 1))).heap.size:=by simp;omega
  have HB3:=Lib.hid ((Below.heap_setCell w1 ⟨b,3,none⟩ (.int .i64 (deep + 1)) w.heap.size (by simp;omega)).trans HB1.out)
  have HB4:=Lib.hid ((Below.heap_setCell w1 ⟨b,3,none⟩ (.int .i64 (deep + 1)) (w.heap.size + 1) (by simp;omega)).trans HB2.out)
  obtain ⟨w2,hw2⟩:∃ w2,w2=w1.setCell ⟨b,3,none⟩ (.int .i64 (deep + 1)):=⟨_,rfl⟩
  rw [←hw2] at HR2 HG2 HB3 HB4 hlt2 ⊢
  clear hw2 HR1 HG1 HB1 HB2 c0 c1 c2 c3 c4 c5 cf d0 hlt1
  obtain ⟨c0,c1,c2,c3,c4,c5,cf⟩:=HR2.out.cells
  have d0:w2.cell? ⟨w.heap.size,0,none⟩=some (.pointer (some ⟨b,0,none⟩)):=by simp [World.cell?,HB3.out]
  go_quiet ((first|(go_at_call 42;with_reducible first|exact qaw _|exact qbw _)|(go_at_call 43;with_reducible first|exact qap _|exact qbp _)|(go_at_call 52;with_reducible first|exact qad _|exact qbd _)|(go_at_call 76;with_reducible first|exact qar _|exact qbr _)|(go_at_call 75;with_reducible first|exact qag _|exact qbg _)));go_wp2_with fail
  go_quiet ((first|(go_at_call 42;with_reducible first|exact qaw _|exact qbw _)|(go_at_call 43;with_reducible first|exact qap _|exact qbp _)|(go_at_call 52;with_reducible first|exact qad _|exact qbd _)|(go_at_call 76;with_reducible first|exact qar _|exact qbr _)|(go_at_call 75;with_reducible first|exact qag _|exact qbg _)));go_wp2_with fail
  refine (is_any _ b s p1 (c::la) 0 (deep + 1) oa ends (by exact HR2.out.drewN _) (by omega) ⟨#[60,60]⟩ (by decide)).mono ?_
  rintro e w2' ⟨rfl,n2,hw2'⟩
  have hpre:(⟨#[60,60]⟩:ByteArray).data.toList.isPrefixOf (c::la)=is2 (c::la) 60:=pre2 60 (c::la)
  rw [hpre,hd]
  clear hpre
  subst w2'
  go_wp2_with fail
  go_quiet ((first|(go_at_call 42;with_reducible first|exact qaw _|exact qbw _)|(go_at_call 43;with_reducible first|exact qap _|exact qbp _)|(go_at_call 52;with_reducible first|exact qad _|exact qbd _)|(go_at_call 76;with_reducible first|exact qar _|exact qbr _)|(go_at_call 75;with_reducible first|exact qag _|exact qbg _)));go_wp2_with fail
  refine (hexs_any _ b s p1 la c 0 (deep + 1) oa ends (by exact HR2.out.drewN _) (by omega)).mono ?_
  intro e w3 hP3
  obtain ⟨hh,hhe⟩:∃ hh,hh=hexF la false 0 [] oa:=⟨_,rfl⟩
  rw [←hhe] at hP3
  obtain ⟨h1,t,r,o2⟩:=hh
  have Hhe:=Lib.hid hhe;clear hhe
  obtain ⟨rfl,⟨p3,hR3⟩,hg3⟩:=hP3
  simp only at hR3
  have hz3:=keep hg3 HB4.out (by simp;omega)
  have hx3:=keep hg3 HB3.out (by simp;omega)
  have HG3:=Lib.hid (gr_same HG2.out (show w2.grownBy w3 (some b) from ⟨hg3.os,hg3.tape,hg3.output,hg3.size,hg3.block⟩))
  have hlt3:w.heap.size + 1 < w3.heap.size:=(Array.getElem?_eq_some_iff.1 hz3).1
  obtain ⟨z0,z1,z2,z3,z4,z5,z6,zf⟩:=zb_cells hz3
  have HZ3:=Lib.hid hz3
  have HX3:=Lib.hid hx3
  have HR3:=Lib.hid hR3;clear hR3
  clear hz3 hx3 hg3 c0 c1 c2 c3 c4 c5 cf d0 HG2 HR2 HB3 HB4
  go_wp2_with fail
  refine val_door HX3.out HZ3.out HR3.out HG3.out hbB hd0 (by omega) rfl ?_
  intro w' g1 g2 g3 g4
  rw [←Hhe.out]
  unfold hexR
  simp only
  by_cases h0:h1=0
  · rw [if_pos (by simpa using h0)]
    rw [if_pos h0] at g1
    exact ⟨nilS,nilS,fun _=>False,rfl,IsV.plain (by trivial),fun k hk=>hk.elim,⟨p3,g1⟩,g2⟩
  · rw [if_neg (by simpa using h0)]
    rw [if_neg h0] at g1
    exact ⟨_,rfl,⟨_,_,_,_,_,_,_,_,_,_,_,rfl⟩,⟨p3,r,o2,failB 0 h1,ends,failB_ne _ _ h0,g1⟩,g2⟩
set_option maxRecDepth 100000 in
set_option maxHeartbeats 40000000 in
theorem val_name (w:World) (b:Nat) (s:ByteArray) (p l:By) (deep:Int) (hd0:0≤deep) (hd1:deep≤49) (odd ends:Bool) (hR:RdAt w b s p l 0 deep odd ends) (hs:s.size≤1000000000) (oa:Bool) (c:UInt8) (la:By) (hP:passM false l odd=(c::la,oa)) (h40:((c.toNat:Int) == 40)=false) (hd:is2 (c::la) 60=false) (h60:((c.toNat:Int) == 60)=false) (h47:((c.toNat:Int) == 47)=true) :
    Calls Tryz.prog 28 #[.pointer (some ⟨b,0,none⟩)] w fun e w'=>VPost w w' b s deep ends e ((nameB (wordT la) []).map fun k=>(.name k,wordR la,wordO la oa)):=by
  have hbB:=hR.lt
  have HR:=Lib.hid hR;clear hR
  have hal:=alloc2 w w.heap.size rfl (.cells #[.pointer (some ⟨b,0,none⟩)] 55 (0,0)) (.cells #[.int .i64 0,.int .i64 0,.int .i64 0,.float .f64 0,.string ⟨#[]⟩,.slice none 0 0,.slice none 0 0] 30 (0,0))
  have hmf:∀ (fn:Fn) (first cap:Array Value) (w:World),(Instr.makeFunc fn first cap).run Tryz.prog w=.ok (.func fn first cap) w:=fun _ _ _ _=>rfl
  go_enter_defers Tryz.func28,Tryz.ntmps28
  go_wp2_with fail
  refine (pass_any _ b s p l 0 deep odd ends (by exact (HR.out.alloc _).alloc _) (by omega)).mono ?_
  rintro e w1 ⟨rfl,⟨p1,hR1⟩,hg1⟩
  have hb1:=keep hg1 hal.1 (by simp;omega)
  have hb2:=keep hg1 hal.2 (by simp;omega)
  have hlt1:w.heap.size + 1 < w1.heap.size:=(Array.getElem?_eq_some_iff.1 hb2).1
  have HG1:=Lib.hid (gr_same (gr_alloc (gr_alloc (World.grownBy.refl w (some b)) _) _) hg1)
  have HB1:=Lib.hid hb1
  have HB2:=Lib.hid hb2
  have d0:w1.cell? ⟨w.heap.size,0,none⟩=some (.pointer (some ⟨b,0,none⟩)):=by simp [World.cell?,hb1]
  rw [hP] at hR1
  simp only at hR1
  obtain ⟨c0,c1,c2,c3,c4,c5,cf⟩:=hR1.cells
  have hsz1:=hR1.size
  have HR1:=Lib.hid hR1
  have hnb1:¬w.heap.size=b:=by omega
  have hnb2:¬w.heap.size + 1=b:=by omega
  have hp1:p1.length≤s.size:=by omega
  have Hsz1:=Lib.hid hsz1
  clear hg1 hal hb1 hb2 hR1 hsz1
  go_wp2_with fail
  have hlt:p1.length < s.size:=by have:=Hsz1.out;simp at this;omega
  obtain ⟨hk,hget⟩:=HR1.out.head
  have hle:¬s.size≤p1.length:=by omega
  have HR2:=Lib.hid (HR1.out.set3 (deep + 1))
  have HG2:=Lib.hid (gr_set HG1.out 3 (.int .i64 (deep + 1)))
  have hlt2:w.heap.size + 1 < (w1.setCell ⟨b,3,none⟩ (.int .i64 (deep + 1))).heap.size:=by simp;omega
  have HB3:=Lib.hid ((Below.heap_setCell w1 ⟨b,3,none⟩ (.int .i64 (deep + 1)) w.heap.size (by simp;omega)).trans HB1.out)
  have HB4:=Lib.hid ((Below.heap_setCell w1 ⟨b,3,none⟩ (.int .i64 (deep + 1)) (w.heap.size + 1) (by simp;omega)).trans HB2.out)
  obtain ⟨w2,hw2⟩:∃ w2,w2=w1.setCell ⟨b,3,none⟩ (.int .i64 (deep + 1)):=⟨_,rfl⟩
  rw [←hw2] at HR2 HG2 HB3 HB4 hlt2 ⊢
  clear hw2 HR1 HG1 HB1 HB2 c0 c1 c2 c3 c4 c5 cf d0 hlt1
  obtain ⟨c0,c1,c2,c3,c4,c5,cf⟩:=HR2.out.cells
  have d0:w2.cell? ⟨w.heap.size,0,none⟩=some (.pointer (some ⟨b,0,none⟩)):=by simp [World.cell?,HB3.out]
  go_quiet ((first|(go_at_call 42;with_reducible first|exact qaw _|exact qbw _)|(go_at_call 43;with_reducible first|exact qap _|exact qbp _)|(go_at_call 52;with_reducible first|exact qad _|exact qbd _)|(go_at_call 76;with_reducible first|exact qar _|exact qbr _)|(go_at_call 75;with_reducible first|exact qag _|exact qbg _)));go_wp2_with fail
  go_quiet ((first|(go_at_call 42;with_reducible first|exact qaw _|exact qbw _)|(go_at_call 43;with_reducible first|exact qap _|exact qbp _)|(go_at_call 52;with_reducible first|exact qad _|exact qbd _)|(go_at_call 76;with_reducible first|exact qar _|exact qbr _)|(go_at_call 75;with_reducible first|exact qag _|exact qbg _)));go_wp2_with fail
  refine (is_any _ b s p1 (c::la) 0 (deep + 1) oa ends (by exact HR2.out.drewN _) (by omega) ⟨#[60,60]⟩ (by decide)).mono ?_
  rintro e w2' ⟨rfl,n2,hw2'⟩
  have hpre:(⟨#[60,60]⟩:ByteArray).data.toList.isPrefixOf (c::la)=is2 (c::la) 60:=pre2 60 (c::la)
  rw [hpre,hd]
  clear hpre
  subst w2'
  go_wp2_with fail
  go_quiet ((first|(go_at_call 42;with_reducible first|exact qaw _|exact qbw _)|(go_at_call 43;with_reducible first|exact qap _|exact qbp _)|(go_at_call 52;with_reducible first|exact qad _|exact qbd _)|(go_at_call 76;with_reducible first|exact qar _|exact qbr _)|(go_at_call 75;with_reducible first|exact qag _|exact qbg _)));go_wp2_with fail
  go_quiet ((first|(go_at_call 42;with_reducible first|exact qaw _|exact qbw _)|(go_at_call 43;with_reducible first|exact qap _|exact qbp _)|(go_at_call 52;with_reducible first|exact qad _|exact qbd _)|(go_at_call 76;with_reducible first|exact qar _|exact qbr _)|(go_at_call 75;with_reducible first|exact qag _|exact qbg _)));go_wp2_with fail
  refine (name_any _ b s p1 la c 0 (deep + 1) oa ends (by exact HR2.out.drewN _) (by omega)).mono ?_
  intro e w3 hP3
  obtain ⟨hn,hne⟩:∃ hn,hn=nameB (wordT la) []:=⟨_,rfl⟩
  rw [←hne] at hP3
  have Hne:=Lib.hid hne;clear hne
  obtain ⟨rfl,⟨p3,hR3⟩,hg3⟩:=hP3
  have hz3:=keep hg3 HB4.out (by simp;omega)
  have hx3:=keep hg3 HB3.out (by simp;omega)
  have HG3:=Lib.hid (gr_same HG2.out (show w2.grownBy w3 (some b) from ⟨hg3.os,hg3.tape,hg3.output,hg3.size,hg3.block⟩))
  have hlt3:w.heap.size + 1 < w3.heap.size:=(Array.getElem?_eq_some_iff.1 hz3).1
  obtain ⟨z0,z1,z2,z3,z4,z5,z6,zf⟩:=zb_cells hz3
  have HZ3:=Lib.hid hz3
  have HX3:=Lib.hid hx3
  have HR3:=Lib.hid hR3;clear hR3
  clear hz3 hx3 hg3 c0 c1 c2 c3 c4 c5 cf d0 HG2 HR2 HB3 HB4
  go_wp2_with fail
  refine val_door HX3.out HZ3.out HR3.out HG3.out hbB hd0 (by omega) rfl ?_
  intro w' g1 g2 g3 g4
  rw [←Hne.out]
  cases hn with
  | none=>exact ⟨_,rfl,⟨_,_,_,_,_,_,_,_,_,_,_,rfl⟩,⟨p3,_,_,_,ends,failB_ne _ _ (by decide),g1⟩,g2⟩
  | some k=>exact ⟨nilS,nilS,fun _=>False,rfl,IsV.plain (by trivial),fun k hk=>hk.elim,⟨p3,g1⟩,g2⟩
set_option maxRecDepth 100000 in
set_option maxHeartbeats 40000000 in
theorem val_deep (w:World) (b:Nat) (s:ByteArray) (p l:By) (deep:Int) (hd1:50≤deep) (hd2:deep≤50) (odd ends:Bool) (hR:RdAt w b s p l 0 deep odd ends) (hs:s.size≤1000000000) :
    Calls Tryz.prog 28 #[.pointer (some ⟨b,0,none⟩)] w fun e w'=>VPost w w' b s deep ends e none:=by
  obtain ⟨la,oa,hP⟩:∃ la oa,passM false l odd=(la,oa):=⟨_,_,rfl⟩
  have hbB:=hR.lt
  have HR:=Lib.hid hR;clear hR
  have hal:=alloc2 w w.heap.size rfl (.cells #[.pointer (some ⟨b,0,none⟩)] 55 (0,0)) (.cells #[.int .i64 0,.int .i64 0,.int .i64 0,.float .f64 0,.string ⟨#[]⟩,.slice none 0 0,.slice none 0 0] 30 (0,0))
  have hmf:∀ (fn:Fn) (first cap:Array Value) (w:World),(Instr.makeFunc fn first cap).run Tryz.prog w=.ok (.func fn first cap) w:=fun _ _ _ _=>rfl
  go_enter_defers Tryz.func28,Tryz.ntmps28
  go_wp2_with fail
  refine (pass_any _ b s p l 0 deep odd ends (by exact (HR.out.alloc _).alloc _) (by omega)).mono ?_
  rintro e w1 ⟨rfl,⟨p1,hR1⟩,hg1⟩
  have hb1:=keep hg1 hal.1 (by simp;omega)
  have hb2:=keep hg1 hal.2 (by simp;omega)
  have hlt1:w.heap.size + 1 < w1.heap.size:=(Array.getElem?_eq_some_iff.1 hb2).1
  have HG1:=Lib.hid (gr_same (gr_alloc (gr_alloc (World.grownBy.refl w (some b)) _) _) hg1)
  have HB1:=Lib.hid hb1
  have HB2:=Lib.hid hb2
  have d0:w1.cell? ⟨w.heap.size,0,none⟩=some (.pointer (some ⟨b,0,none⟩)):=by simp [World.cell?,hb1]
  rw [hP] at hR1
  simp only at hR1
  obtain ⟨c0,c1,c2,c3,c4,c5,cf⟩:=hR1.cells
  have hsz1:=hR1.size
  have HR1:=Lib.hid hR1
  have hnb1:¬w.heap.size=b:=by omega
  have hnb2:¬w.heap.size + 1=b:=by omega
  have hp1:p1.length≤s.size:=by omega
  have Hsz1:=Lib.hid hsz1
  clear hg1 hal hb1 hb2 hR1 hsz1
  go_wp2_with fail
  have HR2:=Lib.hid (HR1.out.set3 (deep + 1))
  have HG2:=Lib.hid (gr_set HG1.out 3 (.int .i64 (deep + 1)))
  have hlt2:w.heap.size + 1 < (w1.setCell ⟨b,3,none⟩ (.int .i64 (deep + 1))).heap.size:=by simp;omega
  have HB3:=Lib.hid ((Below.heap_setCell w1 ⟨b,3,none⟩ (.int .i64 (deep + 1)) w.heap.size (by simp;omega)).trans HB1.out)
  have HB4:=Lib.hid ((Below.heap_setCell w1 ⟨b,3,none⟩ (.int .i64 (deep + 1)) (w.heap.size + 1) (by simp;omega)).trans HB2.out)
  obtain ⟨w2,hw2⟩:∃ w2,w2=w1.setCell ⟨b,3,none⟩ (.int .i64 (deep + 1)):=⟨_,rfl⟩
  rw [←hw2] at HR2 HG2 HB3 HB4 hlt2 ⊢
  clear hw2 HR1 HG1 HB1 HB2 c0 c1 c2 c3 c4 c5 cf d0 hlt1
  obtain ⟨c0,c1,c2,c3,c4,c5,cf⟩:=HR2.out.cells
  have d0:w2.cell? ⟨w.heap.size,0,none⟩=some (.pointer (some ⟨b,0,none⟩)):=by simp [World.cell?,HB3.out]
  refine (fail_any _ b s p1 la 0 (deep + 1) oa ends (by exact HR2.out) 2).mono ?_
  rintro e w3 ⟨rfl,hR3,hg3⟩
  unfold zeroV
  have hz3:=keep hg3 HB4.out (by simp;omega)
  have hx3:=keep hg3 HB3.out (by simp;omega)
  have HG3:=Lib.hid (gr_same HG2.out (show w2.grownBy w3 (some b) from ⟨hg3.os,hg3.tape,hg3.output,hg3.size,hg3.block⟩))
  have hlt3:w.heap.size + 1 < w3.heap.size:=(Array.getElem?_eq_some_iff.1 hz3).1
  obtain ⟨z0,z1,z2,z3,z4,z5,z6,zf⟩:=zb_cells hz3
  have HZ3:=Lib.hid hz3
  have HX3:=Lib.hid hx3
  have HR3:=Lib.hid hR3;clear hR3
  clear hz3 hx3 hg3 c0 c1 c2 c3 c4 c5 cf d0 HG2 HR2 HB3 HB4
  go_wp2_with fail
  refine val_door HX3.out HZ3.out HR3.out HG3.out hbB (by omega) (by omega) rfl ?_
  intro w' g1 g2 g3 g4
  exact ⟨_,rfl,⟨_,_,_,_,_,_,_,_,_,_,_,rfl⟩,⟨p1,_,oa,failB 0 2,ends,failB_ne _ _ (by decide),g1⟩,g2⟩
end Go.Proofs.YtfkecmlmnhbmoaaGreatDoor
namespace Go.Proofs.YtfkecmlmnhbmoaaGreatDoor
open Go Go.RowKit
open Go.Maps
set_option maxRecDepth 100000 in
set_option maxHeartbeats 40000000 in
theorem ctx69_any (nn:Nat→Prop) (n:Nat) (w:World) (b:Nat) (l:By) (x:PV) (r:By) (lv:Int) (hL:LineAt w b l) (hlv:0≤lv) (hlv2:lv≤100) (hne:l≠[]) (la:By) (hp:passM false l false=(la,false)) (hla:la≠[]) (hpl:∀ c∈la.head?,isPlain (c.toNat:Int)=true)
    (hV:∀ (w2:World) (b2:Nat),w.grownBy w2 none→LineAt w2 b2 la→w.heap.size≤b2→Calls Tryz.prog 82 #[.agg #[],.pointer (some ⟨b2,0,none⟩),.int .i64 lv,.int .i64 100,.bool false] w2 fun e w'=>ObjPost nn n w2 w' b2 x r e) :
    Calls Tryz.prog 69 #[.agg #[],.pointer (some ⟨b,0,none⟩),.int .i64 lv,.int .i64 100,.bool false] w fun e w'=>ObjPost nn n w w' b x r e:=by
  obtain ⟨c,t,rfl⟩:∃ c t,l=c::t:=by cases l with | nil=>exact absurd rfl hne | cons c t=>exact ⟨c,t,rfl⟩
  obtain ⟨z,hz⟩:∃ z,z=bs (c::t):=⟨_,rfl⟩
  have hck:=fun w=>check_any ⟨#[112,97,114,115,101,32,111,98,106,101,99,116]⟩ lv (by omega) w
  have hga:w.grownBy (w.alloc (Obj.cells #[] 99)) none:=gr_alloc (World.grownBy.refl _ _) _
  have hLa:=hL.keep hga (by simp)
  have hnb:=nobuf_any (w.alloc (Obj.cells #[] 99)) b c t hLa
  have HL:=Lib.hid hL
  have Hp:=Lib.hid hp
  have Hla:=Lib.hid (And.intro hla hpl)
  have HV:=Lib.hid hV
  have Hz:=Lib.hid hz.symm
  have hbw:=hL.lt
  clear hL hp hla hpl hV hz hne hLa
  go_enter Tryz.func69,Tryz.ntmps69
  go_wp2_with fail
  refine hnb.mono ?_
  rintro e w1 ⟨rfl,n1,hw1⟩
  have hG1:w.grownBy w1 none:=by rw [hw1];exact gr_drewN hga _
  have hbx1:w1.heap[w.heap.size]?=some (.cells #[] 99 (0,0)):=by rw [hw1];exact heap_alloc_new w _
  have hs1:w1.heap.size=w.heap.size + 1:=by rw [hw1];simp
  have hL1:=HL.out.keep hG1 (by simp)
  obtain ⟨c1,f1⟩:=hL1.cell
  rw [Hz.out] at c1
  have HG1:=Lib.hid hG1
  have Hs1:=Lib.hid hs1
  have HL1:=Lib.hid hL1
  have hbw1:=hL1.lt
  clear hnb hga hw1 hG1 hs1 hL1
  go_wp2_with fail
  refine (hck _).mono ?_
  rintro e w2 ⟨rfl,hw2⟩
  subst w2
  go_wp2_with fail
  obtain ⟨w3,hw3⟩:∃ w3,w3=w1.alloc (Obj.cells #[Value.string z] 9):=⟨_,rfl⟩
  have hg3:w1.grownBy w3 none:=by rw [hw3];exact gr_alloc (World.grownBy.refl _ _) _
  have hl3:LineAt w3 w1.heap.size (c::t):=by unfold LineAt;rw [hw3,←Hz.out];exact heap_alloc_new _ _
  rw [←hw3]
  have hG3:=HG1.out.trans hg3
  have HLb3:=Lib.hid (HL.out.keep hG3 (by simp))
  have HG3:=Lib.hid hG3
  have Hl3:=Lib.hid hl3
  have hbx3:=(hg3.block _ (Array.getElem?_eq_some_iff.1 hbx1).1 (by simp)).trans hbx1
  clear hw3 hg3 hl3 hG3 c1 f1 hbx1
  have htr:=trim_any2 (c::t) la w3 Hp.out Hla.out.2
  rw [Hz.out] at htr
  refine htr.mono ?_
  rintro e w4 ⟨⟨q,hq,rfl⟩,hb4⟩
  obtain rfl:q=la:=by rcases hq with h | ⟨h,_⟩;exact h;exact absurd h Hla.out.1
  have hg4:=gr_of_below hb4
  have HL4:=Lib.hid (Hl3.out.keep hg4 (by simp))
  have HG4:=Lib.hid (HG3.out.trans hg4)
  obtain ⟨c4,f4⟩:=HL4.out.cell
  have hq0:((((bs q).size:Nat):Int) == 0)=false:=by
    rw [bs_size]
    have:=List.length_pos_iff.2 Hla.out.1
    simp only [beq_eq_false_iff_ne];omega
  have hbx4:=(hg4.block _ (Array.getElem?_eq_some_iff.1 hbx3).1 (by simp)).trans hbx3
  clear hq hb4 hg4 hbx3 htr
  go_wp2_with fail
  obtain ⟨w5,hw5⟩:∃ w5,w5=w4.setCell ⟨w1.heap.size,0,none⟩ (.string (bs q)):=⟨_,rfl⟩
  have hL5:=HL4.out.set q
  have hg5:=gr_set (World.grownBy.refl w4 (some w1.heap.size)) 0 (.string (bs q))
  rw [←hw5] at hL5 hg5 ⊢
  have hG5:w.grownBy w5 none:=gr_noneThen HG4.out hg5 (fun j hj=>by injection hj with hj;have:=Hs1.out;omega)
  have hbx5:=(hg5.block _ (Array.getElem?_eq_some_iff.1 hbx4).1 (by have:=Hs1.out;simp;omega)).trans hbx4
  obtain ⟨c5,f5⟩:=hL5.cell
  have hcall:=HV.out w5 w1.heap.size hG5 hL5 (by have:=Hs1.out;omega)
  have HG5:=Lib.hid hG5
  clear hw5 hL5 hg5 hG5 c4 f4 hbx4
  go_wp2_with fail
  refine hcall.mono ?_
  rintro e w6 ⟨po,v,S,rfl,hO,hS,hC,hL6,hg6⟩
  have hG6:w.grownBy w6 none:=gr_noneThen HG5.out hg6 (fun j hj=>by injection hj with hj;have:=Hs1.out;omega)
  have hLb6:=HL.out.keep hG6 (by simp)
  obtain ⟨c6,f6⟩:=hL6.cell
  obtain ⟨d6,e6⟩:=hLb6.cell
  have hset:=gr_set (World.grownBy.refl w6 (some b)) 0 (.string (bs r))
  have hs5:=HG5.out.size
  have H:=Lib.hid (show ObjPost nn n w (w6.setCell ⟨b,0,none⟩ (.string (bs r))) b x r (.returned (.tuple #[v,.nilIface])) from ⟨po,v,S,rfl,ObjO.keep (fun k hk=>⟨hk,hset.block k (hS k hk).2 (by have:=hS k hk;simp;omega)⟩) _ _ hO,fun k hk=>by have:=hS k hk;have:=hset.size;omega,hC,hLb6.set r,gr_set (hG6.but (some b)) _ _⟩)
  clear hO hS hC hL6 hg6 hG6 hLb6 hset hs5 c5 f5 hcall
  go_wp2_with fail
  go_ret2
  exact H.out
theorem objC_all (pf:By→Nat) (nn:Nat→Prop) (hnn:∀ t,numOk t→nn (pf t)) (W0:World) (ea eb:Addr) (ca cb:Array Value) (hI:InitQ W0 ea eb ca cb) (hpf:PFC pf W0):∀ n,ObjC pf nn W0 n:=by
  intro n
  induction n with
  | zero=>intro w b l x r lv _ _ _ _ _ _ h;simp [rdV] at h
  | succ n ih =>
    intro w b l x r lv hE hW0 hL hl hlv hlv2 h
    obtain ⟨_,c,l1,hp,hw,h37,hc⟩:=rdV_inv h
    have hne:l≠[]:=by rintro rfl;simp [passM] at hp
    have hpl:=rdV_plain hp h
    have hlen:=passM_len false l false
    rw [hp] at hlen
    simp at hlen
    refine ctx69_any nn (n + 1) w b l x r lv hL hlv (by omega) hne _ hp (by simp) hpl.2 (fun w2 b2 hg2 hL2 hb2=>?_)
    have hE2:=hE.grown0 hg2
    have hWb:W0.heap.size≤b2:=Nat.le_trans hE.1 hb2
    rcases hc with ⟨h1,t,h2,rfl⟩ | ⟨h1,l2,rfl,ks,vs,h2,rfl⟩ | ⟨h1,h2,t,h3,rfl⟩ | ⟨h1,k,h2,rfl,h3,rfl⟩ | ⟨h1,kids,h2,rfl⟩ | ⟨h1,h2⟩
    · obtain rfl:c=40:=by apply UInt8.toNat_inj.1;simp;omega
      exact pval_lit w2 nn n b2 l1 t r hL2 (by omega) h2 lv
    · obtain rfl:c=60:=by apply UInt8.toNat_inj.1;simp;omega
      exact pval_dict pf nn W0 w2 hE2 hI.toInitP n ih b2 l2 hL2 (by simp at hlen;omega) hWb lv hlv (by omega) _ (ks,vs) r h2
    · obtain rfl:c=60:=by apply UInt8.toNat_inj.1;simp;omega
      exact pval_hex W0 w2 hE2 hI.toInitP nn n b2 l1 t r hL2 (by omega) h2 h3 lv
    · obtain rfl:c=47:=by apply UInt8.toNat_inj.1;simp;omega
      exact pval_name W0 w2 hE2 hI.toInitP nn n b2 l1 k hL2 (by omega) hWb h3 h2 lv
    · obtain rfl:c=91:=by apply UInt8.toNat_inj.1;simp;omega
      exact pval_arr pf nn W0 w2 hE2 n ih b2 l1 hL2 (by omega) hWb lv hlv (by omega) _ kids r h2
    · exact pval_num pf nn hnn W0 w2 ea eb ca cb hI hpf hE2 n b2 c l1 hL2 (by omega) hWb h1 hw x r h2 lv
end Go.Proofs.YtfkecmlmnhbmoaaGreatDoor
namespace Go.Proofs.YtfkecmlmnhbmoaaGreatDoor
open Go Go.RowKit
open Go.Maps
set_option maxRecDepth 100000 in
set_option maxHeartbeats 40000000 in
theorem ctx56_any (pf:By→Nat) (nn:Nat→Prop) (W0:World) (n:Nat) (hC:ObjC pf nn W0 n) (hn:n≤100) (w:World) (hE:Env W0 w) (b:Nat) (l:By) (x:PV) (r:By) (hL:LineAt w b l) (hl:l.length≤100000) (hW0:W0.heap.size≤b) (h:rdV pf n l false=some (x,r,false)) :
    Calls Tryz.prog 56 #[.agg #[],.pointer (some ⟨b,0,none⟩),.int .i64 0,.slice none 0 0] w fun e w'=>ObjPost nn n w w' b x r e:=by
  obtain ⟨c,t,rfl⟩:∃ c t,l=c::t:=by
    cases l with
    | nil=>cases n with
      | zero=>simp [rdV] at h
      | succ n=>obtain ⟨_,c,l1,h1,_⟩:=rdV_inv h;simp [passM] at h1
    | cons c t=>exact ⟨c,t,rfl⟩
  have hga:w.grownBy (w.alloc (Obj.cells #[] 99)) none:=gr_alloc (World.grownBy.refl _ _) _
  have hnb:=nobuf_any (w.alloc (Obj.cells #[] 99)) b c t (hL.keep hga (by simp))
  have HL:=Lib.hid hL
  have HE:=Lib.hid hE
  have HC:=Lib.hid hC
  have Hh:=Lib.hid h
  have hbw:=hL.lt
  have hb0:=heap_alloc_new w (Obj.cells #[] 99)
  clear hL hE hC h
  go_enter Tryz.func56,Tryz.ntmps56
  go_wp2_with fail
  refine hnb.mono ?_
  rintro e w1 ⟨rfl,n1,hw1⟩
  have hG1:w.grownBy w1 none:=by rw [hw1];exact gr_drewN hga _
  have hbx1:w1.heap[w.heap.size]?=some (.cells #[] 99 (0,0)):=by rw [hw1];exact hb0
  clear hnb hga hw1 hb0
  go_wp2_with fail
  refine (depth_any _).mono ?_
  rintro e w2 ⟨rfl,hg2⟩
  have hG2:=hG1.trans hg2
  have hbx2:=(hg2.block _ (Array.getElem?_eq_some_iff.1 hbx1).1 (by simp)).trans hbx1
  have hL2:=HL.out.keep hG2 (by simp)
  obtain ⟨c2,f2⟩:=hL2.cell
  have hcall:=HC.out w2 b (c::t) x r 0 (HE.out.grown0 hG2) hW0 hL2 hl (by omega) (by omega) Hh.out
  have HG2:=Lib.hid hG2
  clear hG1 hg2 hG2 hbx1 hL2
  go_wp2_with fail
  refine hcall.mono ?_
  intro e w6 hP
  have H:=Lib.hid (ObjPost.box HG2.out hP)
  obtain ⟨po,v,S,rfl,-,-,-,-,-⟩:=hP
  go_wp2_with fail
  go_ret2
  exact H.out
set_option maxRecDepth 100000 in
set_option maxHeartbeats 40000000 in
theorem parse30_any (pf:By→Nat) (nn:Nat→Prop) (W0:World) (n:Nat) (hC:ObjC pf nn W0 n) (hn:n≤100) (w:World) (hE:Env W0 w) (b:Nat) (l:By) (x:PV) (r:By) (hL:LineAt w b l) (hl:l.length≤100000) (hW0:W0.heap.size≤b) (h:rdV pf n l false=some (x,r,false)) :
    Calls Tryz.prog 30 #[.pointer (some ⟨b,0,none⟩)] w fun e w'=>ObjPost nn n w w' b x r e:=by
  have hcall:=ctx56_any pf nn W0 n hC hn w hE b l x r hL hl hW0 h
  clear hL hE hC h
  go_enter Tryz.func30,Tryz.ntmps30
  go_wp2_with fail
  refine hcall.mono ?_
  intro e w6 hP
  have H:=Lib.hid hP
  obtain ⟨po,v,S,rfl,-,-,-,-,-⟩:=hP
  go_wp2_with fail
  go_ret2
  exact H.out
end Go.Proofs.YtfkecmlmnhbmoaaGreatDoor
