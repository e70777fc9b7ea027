/- FnParse: the texts C5 C6 of the workbench, laid together. -/
import Derived.Test.YtfkecmlmnhbmoaaGreatDoorProg
import Derived.WalkKit
import Derived.WalkLawsBesides
import Derived.WalkSpells
import Derived.BigQuiet
import Derived.BigRegion
import Derived.Deep.QuietTactic
import Derived.Deep.RegionHeld3
import Derived.Deep.LoopGhost
import Derived.StillTailTactics
import Derived.Lib.Hide
import Derived.Laws.EntriesVeiled
import Derived.Test.YtfkecmlmnhbmoaaGreatDoorZ17
import Derived.Test.YtfkecmlmnhbmoaaGreatDoorZ26
import Derived.Test.YtfkecmlmnhbmoaaGreatDoorZ39
import Derived.Test.YtfkecmlmnhbmoaaGreatDoorZ40
set_option linter.unusedVariables false
set_option linter.unusedSimpArgs false
namespace Go.Proofs.YtfkecmlmnhbmoaaGreatDoor
open Go Go.RowKit
set_option maxRecDepth 100000 in
set_option maxHeartbeats 40000000 in
theorem val_dict (pf:By→Nat) (W0:World) (n:Nat) (hn:n≤49) (hV:ValC pf W0 n) (hVB:ValB) (w:World) (b:Nat) (s:ByteArray) (p l:By) (deep:Int) (hd0:0≤deep) (hd1:deep≤49) (odd ends:Bool) (hR:RdAt w b s p l 0 deep odd ends) (hs:s.size≤1000000000) (oa:Bool) (hE:Env W0 w) (hW0:W0.heap.size≤b) (hdn:deep + 1=50 - n) (c cB:UInt8) (la:By) (hP:passM false l odd=(c::cB::la,oa)) (h40:((c.toNat:Int) == 40)=false) (hd:is2 (c::cB::la) 60=true) :
    Calls Tryz.prog 28 #[.pointer (some ⟨b,0,none⟩)] w fun e w'=>VPost w w' b s deep ends e ((rdDict (rdV pf n) la.length la oa [] []).map fun r=>(.dict r.1.1 r.1.2,r.2)):=by
  obtain ⟨l2,hl2⟩:∃ l2,l2=cB::la:=⟨_,rfl⟩
  rw [←hl2] at hP hd
  have Hl2:=Lib.hid hl2;clear hl2
  have HE:=Lib.hid hE;clear hE
  have HV:=Lib.hid hV;clear hV
  have HVB:=Lib.hid hVB;clear hVB
  have Hdn:=Lib.hid hdn;clear hdn
  have hbB:=hR.lt
  have HR:=Lib.hid hR;clear hR
  have hal:=alloc2 w w.heap.size rfl (.cells #[.pointer (some ⟨b,0,none⟩)] 55 (0,0)) (.cells #[.int .i64 0,.int .i64 0,.int .i64 0,.float .f64 0,.string ⟨#[]⟩,.slice none 0 0,.slice none 0 0] 30 (0,0))
  have hmf:∀ (fn:Fn) (first cap:Array Value) (w:World),(Instr.makeFunc fn first cap).run Tryz.prog w=.ok (.func fn first cap) w:=fun _ _ _ _=>rfl
  go_enter_defers Tryz.func28,Tryz.ntmps28
  go_wp2_with fail
  refine (pass_any _ b s p l 0 deep odd ends (by exact (HR.out.alloc _).alloc _) (by omega)).mono ?_
  rintro e w1 ⟨rfl,⟨p1,hR1⟩,hg1⟩
  have hb1:=keep hg1 hal.1 (by simp;omega)
  have hb2:=keep hg1 hal.2 (by simp;omega)
  have hlt1:w.heap.size + 1 < w1.heap.size:=(Array.getElem?_eq_some_iff.1 hb2).1
  have HG1:=Lib.hid (gr_same (gr_alloc (gr_alloc (World.grownBy.refl w (some b)) _) _) hg1)
  have HB1:=Lib.hid hb1
  have HB2:=Lib.hid hb2
  have d0:w1.cell? ⟨w.heap.size,0,none⟩=some (.pointer (some ⟨b,0,none⟩)):=by simp [World.cell?,hb1]
  rw [hP] at hR1
  simp only at hR1
  obtain ⟨c0,c1,c2,c3,c4,c5,cf⟩:=hR1.cells
  have hsz1:=hR1.size
  have HR1:=Lib.hid hR1
  have hnb1:¬w.heap.size=b:=by omega
  have hnb2:¬w.heap.size + 1=b:=by omega
  have hp1:p1.length≤s.size:=by omega
  have Hsz1:=Lib.hid hsz1
  clear hg1 hal hb1 hb2 hR1 hsz1
  go_wp2_with fail
  have hlt:p1.length < s.size:=by have:=Hsz1.out;simp at this;omega
  obtain ⟨hk,hget⟩:=HR1.out.head
  have hle:¬s.size≤p1.length:=by omega
  have HR2:=Lib.hid (HR1.out.set3 (deep + 1))
  have HG2:=Lib.hid (gr_set HG1.out 3 (.int .i64 (deep + 1)))
  have hlt2:w.heap.size + 1 < (w1.setCell ⟨b,3,none⟩ (.int .i64 (deep + 1))).heap.size:=by simp;omega
  have HB3:=Lib.hid ((Below.heap_setCell w1 ⟨b,3,none⟩ (.int .i64 (deep + 1)) w.heap.size (by simp;omega)).trans HB1.out)
  have HB4:=Lib.hid ((Below.heap_setCell w1 ⟨b,3,none⟩ (.int .i64 (deep + 1)) (w.heap.size + 1) (by simp;omega)).trans HB2.out)
  obtain ⟨w2,hw2⟩:∃ w2,w2=w1.setCell ⟨b,3,none⟩ (.int .i64 (deep + 1)):=⟨_,rfl⟩
  rw [←hw2] at HR2 HG2 HB3 HB4 hlt2 ⊢
  clear hw2 HR1 HG1 HB1 HB2 c0 c1 c2 c3 c4 c5 cf d0 hlt1
  obtain ⟨c0,c1,c2,c3,c4,c5,cf⟩:=HR2.out.cells
  have d0:w2.cell? ⟨w.heap.size,0,none⟩=some (.pointer (some ⟨b,0,none⟩)):=by simp [World.cell?,HB3.out]
  go_quiet ((first|(go_at_call 42;with_reducible first|exact qaw _|exact qbw _)|(go_at_call 43;with_reducible first|exact qap _|exact qbp _)|(go_at_call 52;with_reducible first|exact qad _|exact qbd _)|(go_at_call 76;with_reducible first|exact qar _|exact qbr _)|(go_at_call 75;with_reducible first|exact qag _|exact qbg _)));go_wp2_with fail
  go_quiet ((first|(go_at_call 42;with_reducible first|exact qaw _|exact qbw _)|(go_at_call 43;with_reducible first|exact qap _|exact qbp _)|(go_at_call 52;with_reducible first|exact qad _|exact qbd _)|(go_at_call 76;with_reducible first|exact qar _|exact qbr _)|(go_at_call 75;with_reducible first|exact qag _|exact qbg _)));go_wp2_with fail
  refine (is_any _ b s p1 (c::l2) 0 (deep + 1) oa ends (by exact HR2.out.drewN _) (by omega) ⟨#[60,60]⟩ (by decide)).mono ?_
  rintro e w2' ⟨rfl,n2,hw2'⟩
  have hpre:(⟨#[60,60]⟩:ByteArray).data.toList.isPrefixOf (c::l2)=is2 (c::l2) 60:=pre2 60 (c::l2)
  rw [hpre,hd]
  clear hpre
  subst w2'
  go_wp2_with fail
  refine (dict_any pf W0 _ (by exact HE.out.grown (gr_drewN HG2.out _) (fun k hk=>by injection hk with hk;omega)) b s p1 la c cB n (by omega) HV.out HVB.out oa ends (by rw [←Hdn.out,←Hl2.out];exact HR2.out.drewN _) hs hW0).mono ?_
  intro e w3 hP3
  obtain ⟨R,hRe⟩:∃ R,R=(rdDict (rdV pf n) la.length la oa [] []).map fun r=>(PV.dict r.1.1 r.1.2,r.2):=⟨_,rfl⟩
  rw [←hRe,←Hdn.out] at hP3
  have HRe:=Lib.hid hRe;clear hRe
  cases R with
  | none =>
    obtain ⟨vv,rfl,⟨xk,xn,xg,xx,xt,ko2,kn2,kc2,vo2,vn2,vc2,rfl⟩,⟨p3,l3,o3,bad3,en3,hbad3,hR3⟩,hg3⟩:=hP3
    have hz3:=keep hg3 HB4.out (by simp;omega)
    have hx3:=keep hg3 HB3.out (by simp;omega)
    have HG3:=Lib.hid (gr_same HG2.out (show w2.grownBy w3 (some b) from ⟨hg3.os,hg3.tape,hg3.output,hg3.size,hg3.block⟩))
    have hlt3:w.heap.size + 1 < w3.heap.size:=(Array.getElem?_eq_some_iff.1 hz3).1
    obtain ⟨z0,z1,z2,z3,z4,z5,z6,zf⟩:=zb_cells hz3
    have HZ3:=Lib.hid hz3
    have HX3:=Lib.hid hx3
    have HR3:=Lib.hid hR3;clear hR3
    clear hz3 hx3 hg3 c0 c1 c2 c3 c4 c5 cf d0 HG2 HR2 HB3 HB4
    go_wp2_with fail
    refine val_door HX3.out HZ3.out HR3.out HG3.out hbB hd0 (by omega) rfl ?_
    intro w' g1 g2 g3 g4
    rw [←HRe.out]
    exact ⟨_,rfl,⟨_,_,_,_,_,_,_,_,_,_,_,rfl⟩,⟨p3,l3,o3,bad3,en3,hbad3,g1⟩,g2⟩
  | some q =>
    obtain ⟨x,r,o2⟩:=q
    obtain ⟨ks2,vs2,S2,rfl,hV3,hS3,⟨p3,hR3⟩,hg3⟩:=hP3
    obtain ⟨⟨ko2,kn2,kc2,hks⟩,⟨vo2,vn2,vc2,hvs⟩⟩:=IsV.slices hV3
    subst hks
    subst hvs
    unfold valOf
    have HV3:=Lib.hid hV3;clear hV3
    have HS3:=Lib.hid hS3;clear hS3
    have hz3:=keep hg3 HB4.out (by simp;omega)
    have hx3:=keep hg3 HB3.out (by simp;omega)
    have HG3:=Lib.hid (gr_same HG2.out (show w2.grownBy w3 (some b) from ⟨hg3.os,hg3.tape,hg3.output,hg3.size,hg3.block⟩))
    have hlt3:w.heap.size + 1 < w3.heap.size:=(Array.getElem?_eq_some_iff.1 hz3).1
    obtain ⟨z0,z1,z2,z3,z4,z5,z6,zf⟩:=zb_cells hz3
    have HZ3:=Lib.hid hz3
    have HX3:=Lib.hid hx3
    have HR3:=Lib.hid hR3;clear hR3
    clear hz3 hx3 hg3 c0 c1 c2 c3 c4 c5 cf d0 HG2 HR2 HB3 HB4
    go_wp2_with fail
    refine val_door HX3.out HZ3.out HR3.out HG3.out hbB hd0 (by omega) rfl ?_
    intro w' g1 g2 g3 g4
    rw [←HRe.out]
    refine ⟨_,_,S2,rfl,IsV.keep (fun k hk=>⟨hk,g3 k ?_ ?_⟩) _ _ _ HV3.out,fun k hk=>?_,⟨p3,g1⟩,g2⟩
    · have:=(HS3.out k hk).1
      simp at this
      omega
    · have:=(HS3.out k hk).1
      simp at this
      omega
    · have:=HS3.out k hk
      simp at this
      omega
theorem valC_step (pf:By→Nat) (W0:World) (hI:Init W0) (hpf:PFC pf W0) (n:Nat) (hV:ValC pf W0 n):ValC pf W0 (n + 1):=by
  intro w b s p l odd ends hE hW0 hs hR hn
  have hn':n≤49:=by omega
  obtain ⟨deep,hdeep⟩:∃ deep:Int,deep=50 - ((n + 1:Nat):Int):=⟨_,rfl⟩
  rw [←hdeep] at hR ⊢
  have hd0:0≤deep:=by omega
  have hd1:deep≤49:=by omega
  have hdn:deep + 1=50 - n:=by omega
  simp only [rdV]
  obtain ⟨la,oa,hP⟩:∃ la oa,passM false l odd=(la,oa):=⟨_,_,rfl⟩
  rw [hP]
  cases la with
  | nil=>exact val_nil w b s p l deep hd0 hd1 odd ends hR hs oa hP
  | cons c la =>
    simp only
    rcases Bool.eq_false_or_eq_true ((c.toNat:Int) == 40) with h40 | h40
    · rw [if_pos h40];exact val_lit w b s p l deep hd0 hd1 odd ends hR hs c la oa hP h40
    · rw [if_neg (by rw [h40];decide)]
      rcases Bool.eq_false_or_eq_true (is2 (c::la) 60) with h2 | h2
      · rw [if_pos h2]
        cases la with
        | nil=>simp [is2] at h2
        | cons cB la=>exact val_dict pf W0 n hn' hV valB_any w b s p l deep hd0 hd1 odd ends hR hs oa hE hW0 hdn c cB la hP h40 h2
      · rw [if_neg (by rw [h2];decide)]
        rcases Bool.eq_false_or_eq_true ((c.toNat:Int) == 60) with h60 | h60
        · rw [if_pos h60];exact val_hex w b s p l deep hd0 hd1 odd ends hR hs oa c la hP h40 h2 h60
        · rw [if_neg (by rw [h60];decide)]
          rcases Bool.eq_false_or_eq_true ((c.toNat:Int) == 47) with h47 | h47
          · rw [if_pos h47];exact val_name w b s p l deep hd0 hd1 odd ends hR hs oa c la hP h40 h2 h60 h47
          · rw [if_neg (by rw [h47];decide)]
            rcases Bool.eq_false_or_eq_true ((c.toNat:Int) == 91) with h91 | h91
            · rw [if_pos h91];exact val_arr pf W0 n hn' hV w b s p l deep hd0 hd1 odd ends hR hs oa hE hW0 hdn c la hP h40 h2 h60 h47 h91
            · rw [if_neg (by rw [h91];decide)]
              rcases Bool.eq_false_or_eq_true (isDelim (c.toNat:Int)) with hd | hd
              · rw [if_pos hd];exact val_delim w b s p l deep hd0 hd1 odd ends hR hs oa c la hP h40 h2 h60 h47 h91 hd
              · rw [if_neg (by rw [hd];decide)];exact val_num pf W0 hI hpf w b s p l deep hd0 hd1 odd ends hR hs oa hE hW0 c la hP h40 h2 h60 h47 h91 hd
theorem valC_all (pf:By→Nat) (W0:World) (hI:Init W0) (hpf:PFC pf W0):∀ n,ValC pf W0 n:=by
  intro n
  induction n with
  | zero =>
    intro w b s p l odd ends hE hW0 hs hR hn
    simp only [rdV]
    exact val_deep w b s p l _ (by simp) (by simp) odd ends hR hs
  | succ n ih=>exact valC_step pf W0 hI hpf n ih
end Go.Proofs.YtfkecmlmnhbmoaaGreatDoor
namespace Go.Proofs.YtfkecmlmnhbmoaaGreatDoor
open Go Go.RowKit
def ClPost (w w':World) (l:By) (e:Ending):Rd PV→Prop
  | some (x,r,false)=>∃ (ks vs:Value) (S:Nat→Prop) (p:By),e=.returned (.tuple #[valOf x ks vs,.int .i64 p.length,.int .i64 0])∧l=p ++ r∧IsV S w' x ks vs∧(∀ k,S k→w.heap.size≤k∧k < w'.heap.size)∧w.grownBy w' none
  | _=>∃ v k,e=.returned (.tuple #[v,.int .i64 0,.int .i64 k])∧k≠0∧Shape7 v∧w.grownBy w' none
theorem gr_down {w w':World} {b:Nat} (h:w.grownBy w' (some b)) {w0:World} (hg:w0.grownBy w none) (hb:w0.heap.size≤b):w0.grownBy w' none :=
  gr_noneThen hg h (fun j hj=>by injection hj with hj;omega)
theorem set7_ad {w:World} {B:Nat} {a0 a1 a2 a3 a4 a5 a6:Value} {e:TypeId} (h:w.heap[B]?=some (.cells #[a0,a1,a2,a3,a4,a5,a6] e (0,0))) (hlt:B < w.heap.size) (v0 v1 v2 v3 v4 v5 v6:Value) (o:Obj):((set7 w B v0 v1 v2 v3 v4 v5 v6).alloc o).drew.heap[B]?=some (.cells #[v0,v1,v2,v3,v4,v5,v6] e (0,0)):=by
  have h2:=set7_at h v0 v1 v2 v3 v4 v5 v6
  have h3:B < (set7 w B v0 v1 v2 v3 v4 v5 v6).heap.size:=by rw [set7_size];exact hlt
  generalize set7 w B v0 v1 v2 v3 v4 v5 v6=w2 at *
  exact (Below.heap_alloc w2 o B h3).trans h2
theorem set7_ado {w:World} {B k:Nat} (hlt:k < w.heap.size) (hk:k≠B) (v0 v1 v2 v3 v4 v5 v6:Value) (o:Obj):((set7 w B v0 v1 v2 v3 v4 v5 v6).alloc o).drew.heap[k]?=w.heap[k]?:=by
  have h2:=set7_other w B k v0 v1 v2 v3 v4 v5 v6 hk
  have h3:k < (set7 w B v0 v1 v2 v3 v4 v5 v6).heap.size:=by rw [set7_size];exact hlt
  generalize set7 w B v0 v1 v2 v3 v4 v5 v6=w2 at *
  exact (Below.heap_alloc w2 o k h3).trans h2
theorem set7_ads (w:World) (B:Nat) (v0 v1 v2 v3 v4 v5 v6:Value) (o:Obj):((set7 w B v0 v1 v2 v3 v4 v5 v6).alloc o).drew.heap.size=w.heap.size + 1:=by
  have h2:=set7_size w B v0 v1 v2 v3 v4 v5 v6
  generalize set7 w B v0 v1 v2 v3 v4 v5 v6=w2 at *
  show (w2.alloc o).heap.size=_
  simp [h2]
theorem set7_adg {w w1:World} {r:Option Nat} (h:w.grownBy w1 r) {B:Nat} (hB:w.heap.size≤B) (v0 v1 v2 v3 v4 v5 v6:Value) (o:Obj):w.grownBy ((set7 w1 B v0 v1 v2 v3 v4 v5 v6).alloc o).drew r :=
  gr_drew (gr_alloc (set7_gr h hB v0 v1 v2 v3 v4 v5 v6) o)
theorem set7_a {w:World} {B:Nat} {a0 a1 a2 a3 a4 a5 a6:Value} {e:TypeId} (h:w.heap[B]?=some (.cells #[a0,a1,a2,a3,a4,a5,a6] e (0,0))) (hlt:B < w.heap.size) (v0 v1 v2 v3 v4 v5 v6:Value) (o:Obj):((set7 w B v0 v1 v2 v3 v4 v5 v6).alloc o).heap[B]?=some (.cells #[v0,v1,v2,v3,v4,v5,v6] e (0,0)) :=
  set7_ad h hlt v0 v1 v2 v3 v4 v5 v6 o
theorem set7_ag {w w1:World} {r:Option Nat} (h:w.grownBy w1 r) {B:Nat} (hB:w.heap.size≤B) (v0 v1 v2 v3 v4 v5 v6:Value) (o:Obj):w.grownBy ((set7 w1 B v0 v1 v2 v3 v4 v5 v6).alloc o) r :=
  gr_alloc (set7_gr h hB v0 v1 v2 v3 v4 v5 v6) o
set_option maxRecDepth 100000 in
set_option maxHeartbeats 40000000 in
theorem claim_ret {w5:World} {B:Nat} {v0 v1 v2 v3 v4 v5 v6 u3 u4:Value} {tmps:Array Value} {R:Ending→World→Prop} (h2:tmps.getD 2 undef=.pointer (some ⟨B,0,none⟩)) (h3:tmps.getD 3 undef=u3) (h4:tmps.getD 4 undef=u4)
    (hz:w5.heap[B]?=some (.cells #[v0,v1,v2,v3,v4,v5,v6] 30 (0,0))) (hR:R (.returned (.tuple #[.agg #[v0,v1,v2,v3,v4,v5,v6],u3,u4])) w5):bodyPost Tryz.prog Tryz.f12 R Exit.ret { tmps:=tmps,defers:=[] } w5:=by
  obtain ⟨y0,y1,y2,y3,y4,y5,y6,yf⟩:=cells7 hz
  simp only [Array.getD_eq_getD_getElem?] at h2 h3 h4
  exact bodyPost_ret (v:=.tuple #[.agg #[v0,v1,v2,v3,v4,v5,v6],u3,u4]) (by simp [results,Tryz.results12,go_sem,h2,h3,h4,y0,y1,y2,y3,y4,y5,y6]) rfl hR
set_option maxRecDepth 100000 in
set_option maxHeartbeats 40000000 in
theorem claimed_any (pf:By→Nat) (W0 w:World) (hI:Init W0) (hpf:PFC pf W0) (hE:Env W0 w) (l:By) (hl:l.length≤1000000000) :
    Calls Tryz.prog 12 #[.string (bs l)] w fun e w'=>ClPost w w' l e (rdV pf 50 l false):=by
  have hV:=valC_all pf W0 hI hpf 50
  have HE:=Lib.hid hE;clear hE
  have HV:=Lib.hid hV;clear hV
  clear hI hpf
  have hR0:RdAt ((w.alloc (.cells #[.int .i64 0,.int .i64 0,.int .i64 0,.float .f64 0,.string ⟨#[]⟩,.slice none 0 0,.slice none 0 0] 30 (0,0))).alloc (.cells #[.string (bs l),.int .i64 0,.int .i64 0,.int .i64 0,.bool false,.bool false] 57 (0,0))) (w.heap.size + 1) (bs l) [] l 0 0 false false:=⟨by simp [bs],(alloc2 w w.heap.size rfl _ _).2⟩
  have hz0:=(alloc2 w w.heap.size rfl (.cells #[.int .i64 0,.int .i64 0,.int .i64 0,.float .f64 0,.string ⟨#[]⟩,.slice none 0 0,.slice none 0 0] 30 (0,0)) (.cells #[.string (bs l),.int .i64 0,.int .i64 0,.int .i64 0,.bool false,.bool false] 57 (0,0))).1
  have hg0:=gr_alloc (gr_alloc (World.grownBy.refl w none) (.cells #[.int .i64 0,.int .i64 0,.int .i64 0,.float .f64 0,.string ⟨#[]⟩,.slice none 0 0,.slice none 0 0] 30 (0,0))) (.cells #[.string (bs l),.int .i64 0,.int .i64 0,.int .i64 0,.bool false,.bool false] 57 (0,0))
  have HR0:=Lib.hid hR0;clear hR0
  have HZ0:=Lib.hid hz0;clear hz0
  have HG0:=Lib.hid hg0;clear hg0
  go_enter Tryz.func12,Tryz.ntmps12
  go_wp2_with fail
  refine (HV.out _ (w.heap.size + 1) (bs l) [] l false false (by exact HE.out.grown0 HG0.out) (by have:=HE.out.1;omega) (by rw [bs_size];exact hl) (by exact HR0.out) (by omega)).mono ?_
  intro e w1 hP
  obtain ⟨R,hRe⟩:∃ R,R=rdV pf 50 l false:=⟨_,rfl⟩
  rw [←hRe] at hP
  have HRe:=Lib.hid hRe;clear hRe
  cases R with
  | none =>
    obtain ⟨vv,rfl,⟨xk,xn,xg,xx,xt,ko2,kn2,kc2,vo2,vn2,vc2,rfl⟩,⟨p3,l3,o3,bad3,en3,hbad3,hR3⟩,hg3⟩:=hP
    have hz3:=keep hg3 HZ0.out (by simp)
    have hG3:=gr_down hg3 HG0.out (by omega)
    obtain ⟨c0,c1,c2,c3,c4,c5,cf⟩:=hR3.cells
    obtain ⟨z0,z1,z2,z3,z4,z5,z6,zf⟩:=zb_cells hz3
    have hlt3:w.heap.size + 1 < w1.heap.size:=hR3.lt
    have hlt2:w.heap.size < w1.heap.size:=by omega
    have HR3:=Lib.hid hR3;clear hR3
    have HZ3:=Lib.hid hz3;clear hz3
    have HG3:=Lib.hid hG3;clear hG3
    have Hg3:=Lib.hid hg3;clear hg3
    clear HR0 HZ0 HG0
    have hbd:(bad3 != 0)=true:=by simpa using hbad3
    go_wp2_with fail
    go_region
    go_wp2_with fail
    refine claim_ret (B:=w.heap.size) (u3:=.int .i64 (0)) (u4:=.int .i64 (bad3)) (v0:=.int .i64 0) (v1:=.int .i64 0) (v2:=.int .i64 0) (v3:=.float .f64 0) (v4:=.string ⟨#[]⟩) (v5:=.slice none 0 0) (v6:=.slice none 0 0) (w5:=((set7 w1 w.heap.size _ _ _ _ _ _ _).alloc _).drew) ?_ ?_ ?_ ?_ ?_
    · rfl
    · rfl
    · rfl
    · exact set7_ad HZ3.out hlt2 _ _ _ _ _ _ _ _
    rw [←HRe.out]
    exact ⟨_,_,rfl,hbad3,⟨_,_,_,_,_,_,_,_,_,_,_,rfl⟩,set7_adg HG3.out (Nat.le_refl _) _ _ _ _ _ _ _ _⟩
  | some q =>
    obtain ⟨x,r,o2⟩:=q
    obtain ⟨ks2,vs2,S2,rfl,hV3,hS3,⟨p3,hR3⟩,hg3⟩:=hP
    obtain ⟨⟨ko2,kn2,kc2,hks⟩,⟨vo2,vn2,vc2,hvs⟩⟩:=IsV.slices hV3
    subst hks
    subst hvs
    unfold valOf
    have HV3:=Lib.hid hV3;clear hV3
    have HS3:=Lib.hid hS3;clear hS3
    have hz3:=keep hg3 HZ0.out (by simp)
    have hG3:=gr_down hg3 HG0.out (by omega)
    obtain ⟨c0,c1,c2,c3,c4,c5,cf⟩:=hR3.cells
    obtain ⟨z0,z1,z2,z3,z4,z5,z6,zf⟩:=zb_cells hz3
    have hlt3:w.heap.size + 1 < w1.heap.size:=hR3.lt
    have hlt2:w.heap.size < w1.heap.size:=by omega
    have HR3:=Lib.hid hR3;clear hR3
    have HZ3:=Lib.hid hz3;clear hz3
    have HG3:=Lib.hid hG3;clear hG3
    have Hg3:=Lib.hid hg3;clear hg3
    clear HR0 HZ0 HG0
    cases o2
    · go_wp2_with fail
      go_region
      go_wp2_with fail
      refine claim_ret (B:=w.heap.size) (u3:=.int .i64 (p3.length)) (u4:=.int .i64 (0)) (v0:=.int .i64 (pvKind x)) (v1:=.int .i64 (pvInt x)) (v2:=.int .i64 (pvGen x)) (v3:=.float .f64 (pvReal x)) (v4:=.string ⟨(pvText x).toArray⟩) (v5:=.slice ko2 kn2 kc2) (v6:=.slice vo2 vn2 vc2) (w5:=((set7 w1 w.heap.size _ _ _ _ _ _ _).alloc _).drew) ?_ ?_ ?_ ?_ ?_
      · rfl
      · rfl
      · rfl
      · exact set7_ad HZ3.out hlt2 _ _ _ _ _ _ _ _
      rw [←HRe.out]
      refine ⟨.slice ko2 kn2 kc2,.slice vo2 vn2 vc2,S2,p3,rfl,?_,IsV.keep (fun k hk=>⟨hk,?_⟩) _ _ _ HV3.out,fun k hk=>?_,set7_adg HG3.out (Nat.le_refl _) _ _ _ _ _ _ _ _⟩
      · have:=HR3.out.1;rw [bs_list] at this;exact this
      · have:=HS3.out k hk
        simp at this
        exact set7_ado (by omega) (by omega) _ _ _ _ _ _ _ _
      · have:=HS3.out k hk
        simp at this
        exact ⟨by omega,by rw [set7_ads];omega⟩
    · go_wp2_with fail
      refine claim_ret (B:=w.heap.size) (u3:=.int .i64 (0)) (u4:=.int .i64 (2)) (v0:=.int .i64 0) (v1:=.int .i64 0) (v2:=.int .i64 0) (v3:=.float .f64 0) (v4:=.string ⟨#[]⟩) (v5:=.slice none 0 0) (v6:=.slice none 0 0) (w5:=(set7 w1 w.heap.size _ _ _ _ _ _ _).alloc _) ?_ ?_ ?_ ?_ ?_
      · rfl
      · rfl
      · rfl
      · exact set7_a HZ3.out hlt2 _ _ _ _ _ _ _ _
      rw [←HRe.out]
      exact ⟨_,_,rfl,by decide,⟨_,_,_,_,_,_,_,_,_,_,_,rfl⟩,set7_ag HG3.out (Nat.le_refl _) _ _ _ _ _ _ _ _⟩
end Go.Proofs.YtfkecmlmnhbmoaaGreatDoor
