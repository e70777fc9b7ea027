/- Parts C5 C6 H1 H2 H3 H4 H5 H6 H7 K1 K2. -/
import Derived.Sort.OwnSorted
import Derived.Test.YtfkecmlmnhbmoaaGreatDoorW22
import Derived.Test.YtfkecmlmnhbmoaaGreatDoorW30
import Derived.Test.YtfkecmlmnhbmoaaGreatDoorW31
set_option linter.unusedVariables false
set_option linter.unusedSimpArgs false
set_option maxRecDepth 100000
set_option maxHeartbeats 40000000
namespace Go.Proofs.YtfkecmlmnhbmoaaGreatDoor
open Go Go.RowKit
theorem val_dict (pf:By→Nat)(W0:World)(n:Nat)(hn:n≤49)(hV:ValC pf W0 n)(hVB:ValB)(w:World)(b:Nat)(s:ByteArray)(p l:By)(deep:Int)(hd0:0≤deep)(hd1:deep≤49)(odd ends:Bool)(hR:RdAt w b s p l 0 deep odd ends)(hs:s.size≤1000000000)(oa:Bool)(hE:Env W0 w)(hW0:W0.heap.size≤b)(hdn:deep+1=50-n)(c cB:UInt8)(la:By)(hP:passM false l odd=(c::cB::la,oa))(h40:((c.toNat:Int)==40)=false)(hd:is2 (c::cB::la) 60=true) :
  Calls Tryz.prog 28 #[.pointer (some ⟨b,0,none⟩)] w fun e w'=>VPost w w' b s deep ends e ((rdDict (rdV pf n) la.length la oa [] []).map fun r=>(.dict r.1.1 r.1.2,r.2)):=by
 obtain⟨l2,hl2⟩:∃l2,l2=cB::la:=⟨_,rfl⟩;rw[←hl2]at hP hd;obtain⟨Hl2,HE,HV,HVB,Hdn⟩:=xh5 hl2 hE hV hVB hdn;clear hl2 hE hV hVB hdn
 have hbB:=hR.lt;have HR:=xhd hR;clear hR
 have hal:=alloc2 w w.heap.size rfl (.cells #[.pointer (some ⟨b,0,none⟩)] 55 (0,0)) (.cells #[.int .i64 0,.int .i64 0,.int .i64 0,.float .f64 0,.string ⟨#[]⟩,.slice none 0 0,.slice none 0 0] 30 (0,0));have hmf:∀(fn:Fn) (first cap:Array Value) (w:World),(Instr.makeFunc fn first cap).run Tryz.prog w=.ok (.func fn first cap) w:=fun _ _ _ _=>rfl
 go_enter_defers Tryz.func28,Tryz.ntmps28
 go_wp2_with fail
 refine(pass_any _ b s p l 0 deep odd ends (by exact(HR.out.alloc _).alloc _) (by omega)).mono ?_;rintro e w1⟨rfl,⟨p1,hR1⟩,hg1⟩;have hb1:=keep hg1 hal.1 (by simp;omega);have hb2:=keep hg1 hal.2 (by simp;omega);have hlt1:w.heap.size+1<w1.heap.size:=(xgl hb2);have HG1:=xhd (gr_same (gr_alloc (gr_alloc (xgr w (some b)) _) _) hg1);obtain⟨HB1,HB2⟩:=xh2 hb1 hb2;have d0:w1.cell? ⟨w.heap.size,0,none⟩=some (.pointer (some ⟨b,0,none⟩)):=by simp[World.cell?,hb1]
 rw[hP]at hR1;simp only at hR1;obtain⟨c0,c1,c2,c3,c4,c5,cf⟩:=hR1.cells;have hsz1:=hR1.size;have HR1:=xhd hR1;have hnb1:¬w.heap.size=b:=by omega
 have hnb2:¬w.heap.size+1=b:=by omega
 have hp1:p1.length≤s.size:=by omega
 have Hsz1:=xhd hsz1;clear hg1 hal hb1 hb2 hR1 hsz1;go_wp2_with fail
 have hlt:p1.length<s.size:=by have:=Hsz1.out;simp at this;omega
 obtain⟨hk,hget⟩:=HR1.out.head;have hle:¬s.size≤p1.length:=by omega
 have HR2:=xhd (HR1.out.set3 (deep+1));have HG2:=xhd (gr_set HG1.out 3 (.int .i64 (deep+1)));have hlt2:w.heap.size+1<(w1.setCell ⟨b,3,none⟩ (.int .i64 (deep+1))).heap.size:=by simp;omega
 have HB3:=xhd ((Below.heap_setCell w1 ⟨b,3,none⟩ (.int .i64 (deep+1)) w.heap.size (by simp;omega)).trans HB1.out);have HB4:=xhd ((Below.heap_setCell w1 ⟨b,3,none⟩ (.int .i64 (deep+1)) (w.heap.size+1) (by simp;omega)).trans HB2.out);obtain⟨w2,hw2⟩:∃w2,w2=w1.setCell ⟨b,3,none⟩ (.int .i64 (deep+1)):=⟨_,rfl⟩;rw[←hw2]at HR2 HG2 HB3 HB4 hlt2⊢;clear hw2 HR1 HG1 HB1 HB2 c0 c1 c2 c3 c4 c5 cf d0 hlt1;obtain⟨c0,c1,c2,c3,c4,c5,cf⟩:=HR2.out.cells;have d0:w2.cell? ⟨w.heap.size,0,none⟩=some (.pointer (some ⟨b,0,none⟩)):=by simp[World.cell?,HB3.out]
 go_quiet ((go_at_call 52;with_reducible first|exact qad _|exact qbd _));go_wp2_with fail
 go_quiet ((go_at_call 52;with_reducible first|exact qad _|exact qbd _));go_wp2_with fail
 refine(is_any _ b s p1 (c::l2) 0 (deep+1) oa ends (by exact HR2.out.drewN _) (by omega) ⟨#[60,60]⟩ (by decide)).mono ?_;rintro e w2'⟨rfl,n2,hw2'⟩;have hpre:(⟨#[60,60]⟩:ByteArray).data.toList.isPrefixOf (c::l2)=is2 (c::l2) 60:=pre2 60 (c::l2);rw[hpre,hd];clear hpre;subst w2';go_wp2_with fail
 refine(dict_any pf W0 _ (by exact HE.out.grown (gr_drewN HG2.out _) (fun k hk=>by injection hk with hk;omega)) b s p1 la c cB n (by omega) HV.out HVB.out oa ends (by rw[←Hdn.out,←Hl2.out];exact HR2.out.drewN _) hs hW0).mono ?_;intro e w3 hP3;obtain⟨R,hRe⟩:∃R,R=(rdDict (rdV pf n) la.length la oa [] []).map fun r=>(PV.dict r.1.1 r.1.2,r.2):=⟨_,rfl⟩;rw[←hRe,←Hdn.out]at hP3;have HRe:=xhd hRe;clear hRe
 cases R with
 | none =>
  obtain⟨vv,rfl,⟨xk,xn,xg,xx,xt,ko2,kn2,kc2,vo2,vn2,vc2,rfl⟩,⟨p3,l3,o3,bad3,en3,hbad3,hR3⟩,hg3⟩:=hP3;have hz3:=keep hg3 HB4.out (by simp;omega);have hx3:=keep hg3 HB3.out (by simp;omega);have HG3:=xhd (gr_same HG2.out (show w2.grownBy w3 (some b) from⟨hg3.os,hg3.tape,hg3.output,hg3.size,hg3.block⟩));have hlt3:w.heap.size+1<w3.heap.size:=(xgl hz3);obtain⟨z0,z1,z2,z3,z4,z5,z6,zf⟩:=zb_cells hz3;obtain⟨HZ3,HX3,HR3⟩:=xh3 hz3 hx3 hR3;clear hR3
  clear hz3 hx3 hg3 c0 c1 c2 c3 c4 c5 cf d0 HG2 HR2 HB3 HB4;go_wp2_with fail
  refine val_door HX3.out HZ3.out HR3.out HG3.out hbB hd0 (by omega) rfl ?_;intro w' g1 g2 g3 g4;rw[←HRe.out];exact⟨_,rfl,⟨_,_,_,_,_,_,_,_,_,_,_,rfl⟩,⟨p3,l3,o3,bad3,en3,hbad3,g1⟩,g2⟩
 | some q =>
  obtain⟨x,r,o2⟩:=q;obtain⟨ks2,vs2,S2,rfl,hV3,hS3,⟨p3,hR3⟩,hg3⟩:=hP3;obtain⟨⟨ko2,kn2,kc2,hks⟩,⟨vo2,vn2,vc2,hvs⟩⟩:=IsV.slices hV3;subst hks;subst hvs;unfold valOf;obtain⟨HV3,HS3⟩:=xh2 hV3 hS3;clear hV3 hS3
  have hz3:=keep hg3 HB4.out (by simp;omega);have hx3:=keep hg3 HB3.out (by simp;omega);have HG3:=xhd (gr_same HG2.out (show w2.grownBy w3 (some b) from⟨hg3.os,hg3.tape,hg3.output,hg3.size,hg3.block⟩));have hlt3:w.heap.size+1<w3.heap.size:=(xgl hz3);obtain⟨z0,z1,z2,z3,z4,z5,z6,zf⟩:=zb_cells hz3;obtain⟨HZ3,HX3,HR3⟩:=xh3 hz3 hx3 hR3;clear hR3
  clear hz3 hx3 hg3 c0 c1 c2 c3 c4 c5 cf d0 HG2 HR2 HB3 HB4;go_wp2_with fail
  refine val_door HX3.out HZ3.out HR3.out HG3.out hbB hd0 (by omega) rfl ?_;intro w' g1 g2 g3 g4;rw[←HRe.out];refine⟨_,_,S2,rfl,IsV.keep (fun k hk=>⟨hk,g3 k ?_ ?_⟩) _ _ _ HV3.out,fun k hk=>?_,⟨p3,g1⟩,g2⟩
  ·have:=(HS3.out k hk).1
   simp at this;omega
  ·have:=(HS3.out k hk).1
   simp at this;omega
  ·have:=HS3.out k hk
   simp at this;omega
theorem valC_step (pf:By→Nat)(W0:World)(hI:Init W0)(hpf:PFC pf W0)(n:Nat)(hV:ValC pf W0 n):ValC pf W0 (n+1):=by
 intro w b s p l odd ends hE hW0 hs hR hn;have hn':n≤49:=by omega
 obtain⟨deep,hdeep⟩:∃deep:Int,deep=50-((n+1:Nat):Int):=⟨_,rfl⟩;rw[←hdeep]at hR⊢;have hd0:0≤deep:=by omega
 have hd1:deep≤49:=by omega
 have hdn:deep+1=50-n:=by omega
 simp only[rdV];obtain⟨la,oa,hP⟩:∃la oa,passM false l odd=(la,oa):=⟨_,_,rfl⟩;rw[hP]
 cases la with
 | nil=>exact val_nil w b s p l deep hd0 hd1 odd ends hR hs oa hP
 | cons c la =>
  simp only;rcases xbt ((c.toNat:Int)==40) with h40|h40
  ·rw[if_pos h40];exact val_lit w b s p l deep hd0 hd1 odd ends hR hs c la oa hP h40
  ·rw[if_neg (by rw[h40];decide)]
   rcases xbt (is2 (c::la) 60) with h2|h2
   ·rw[if_pos h2]
    cases la with
    | nil=>simp[is2]at h2
    | cons cB la=>exact val_dict pf W0 n hn' hV valB_any w b s p l deep hd0 hd1 odd ends hR hs oa hE hW0 hdn c cB la hP h40 h2
   ·rw[if_neg (by rw[h2];decide)]
    rcases xbt ((c.toNat:Int)==60) with h60|h60
    ·rw[if_pos h60];exact val_hex w b s p l deep hd0 hd1 odd ends hR hs oa c la hP h40 h2 h60
    ·rw[if_neg (by rw[h60];decide)]
     rcases xbt ((c.toNat:Int)==47) with h47|h47
     ·rw[if_pos h47];exact val_name w b s p l deep hd0 hd1 odd ends hR hs oa c la hP h40 h2 h60 h47
     ·rw[if_neg (by rw[h47];decide)]
      rcases xbt ((c.toNat:Int)==91) with h91|h91
      ·rw[if_pos h91];exact val_arr pf W0 n hn' hV w b s p l deep hd0 hd1 odd ends hR hs oa hE hW0 hdn c la hP h40 h2 h60 h47 h91
      ·rw[if_neg (by rw[h91];decide)]
       rcases xbt (isDelim (c.toNat:Int)) with hd|hd
       ·rw[if_pos hd];exact val_delim w b s p l deep hd0 hd1 odd ends hR hs oa c la hP h40 h2 h60 h47 h91 hd
       ·rw[if_neg (by rw[hd];decide)];exact val_num pf W0 hI hpf w b s p l deep hd0 hd1 odd ends hR hs oa hE hW0 c la hP h40 h2 h60 h47 h91 hd
theorem valC_all (pf:By→Nat)(W0:World)(hI:Init W0)(hpf:PFC pf W0):∀n,ValC pf W0 n:=by
 intro n
 induction n with
 | zero =>
  intro w b s p l odd ends hE hW0 hs hR hn;simp only[rdV];exact val_deep w b s p l _ (by simp) (by simp) odd ends hR hs
 | succ n ih=>exact valC_step pf W0 hI hpf n ih
theorem gr_down {w w':World}{b:Nat}(h:w.grownBy w' (some b)){w0:World}(hg:w0.grownBy w none)(hb:w0.heap.size≤b):w0.grownBy w' none :=
 gr_noneThen hg h (fun j hj=>by injection hj with hj;omega)
theorem set7_ad {w:World}{B:Nat}{a0 a1 a2 a3 a4 a5 a6:Value}{e:TypeId}(h:w.heap[B]?=some (.cells #[a0,a1,a2,a3,a4,a5,a6] e (0,0)))(hlt:B<w.heap.size)(v0 v1 v2 v3 v4 v5 v6:Value)(o:Obj):((set7 w B v0 v1 v2 v3 v4 v5 v6).alloc o).drew.heap[B]?=some (.cells #[v0,v1,v2,v3,v4,v5,v6] e (0,0)):=by
 have h2:=set7_at h v0 v1 v2 v3 v4 v5 v6;have h3:B<(set7 w B v0 v1 v2 v3 v4 v5 v6).heap.size:=by rw[set7_size];exact hlt
 generalize set7 w B v0 v1 v2 v3 v4 v5 v6=w2 at *;exact(Below.heap_alloc w2 o B h3).trans h2
theorem set7_ado {w:World}{B k:Nat}(hlt:k<w.heap.size)(hk:k≠B)(v0 v1 v2 v3 v4 v5 v6:Value)(o:Obj):((set7 w B v0 v1 v2 v3 v4 v5 v6).alloc o).drew.heap[k]?=w.heap[k]?:=by
 have h2:=set7_other w B k v0 v1 v2 v3 v4 v5 v6 hk;have h3:k<(set7 w B v0 v1 v2 v3 v4 v5 v6).heap.size:=by rw[set7_size];exact hlt
 generalize set7 w B v0 v1 v2 v3 v4 v5 v6=w2 at *;exact(Below.heap_alloc w2 o k h3).trans h2
theorem set7_ads (w:World)(B:Nat)(v0 v1 v2 v3 v4 v5 v6:Value)(o:Obj):((set7 w B v0 v1 v2 v3 v4 v5 v6).alloc o).drew.heap.size=w.heap.size+1:=by
 have h2:=set7_size w B v0 v1 v2 v3 v4 v5 v6;generalize set7 w B v0 v1 v2 v3 v4 v5 v6=w2 at *
 show (w2.alloc o).heap.size=_
 simp[h2]
theorem set7_adg {w w1:World}{r:Option Nat}(h:w.grownBy w1 r){B:Nat}(hB:w.heap.size≤B)(v0 v1 v2 v3 v4 v5 v6:Value)(o:Obj):w.grownBy ((set7 w1 B v0 v1 v2 v3 v4 v5 v6).alloc o).drew r :=
 gr_drew (gr_alloc (set7_gr h hB v0 v1 v2 v3 v4 v5 v6) o)
theorem set7_a {w:World}{B:Nat}{a0 a1 a2 a3 a4 a5 a6:Value}{e:TypeId}(h:w.heap[B]?=some (.cells #[a0,a1,a2,a3,a4,a5,a6] e (0,0)))(hlt:B<w.heap.size)(v0 v1 v2 v3 v4 v5 v6:Value)(o:Obj):((set7 w B v0 v1 v2 v3 v4 v5 v6).alloc o).heap[B]?=some (.cells #[v0,v1,v2,v3,v4,v5,v6] e (0,0)) :=
 set7_ad h hlt v0 v1 v2 v3 v4 v5 v6 o
theorem set7_ag {w w1:World}{r:Option Nat}(h:w.grownBy w1 r){B:Nat}(hB:w.heap.size≤B)(v0 v1 v2 v3 v4 v5 v6:Value)(o:Obj):w.grownBy ((set7 w1 B v0 v1 v2 v3 v4 v5 v6).alloc o) r :=
 gr_alloc (set7_gr h hB v0 v1 v2 v3 v4 v5 v6) o
open Go.Maps
@[go_sem] theorem ta_66_66 (v:Value)(w:World):(Instr.typeAssert (.iface 66 v) 50 66 true).run Tryz.prog w=.ok (.tuple #[v,.bool true]) w:=by kernel_rfl
@[go_sem] theorem ta_67_67 (v:Value)(w:World):(Instr.typeAssert (.iface 67 v) 50 67 true).run Tryz.prog w=.ok (.tuple #[v,.bool true]) w:=by kernel_rfl
@[go_sem] theorem ta_67_66 (v:Value)(w:World):(Instr.typeAssert (.iface 67 v) 50 66 true).run Tryz.prog w=.ok (.tuple #[.bool false,.bool false]) w:=by kernel_rfl
@[go_sem] theorem ta_68_68 (v:Value)(w:World):(Instr.typeAssert (.iface 68 v) 50 68 true).run Tryz.prog w=.ok (.tuple #[v,.bool true]) w:=by kernel_rfl
@[go_sem] theorem ta_68_66 (v:Value)(w:World):(Instr.typeAssert (.iface 68 v) 50 66 true).run Tryz.prog w=.ok (.tuple #[.bool false,.bool false]) w:=by kernel_rfl
@[go_sem] theorem ta_68_67 (v:Value)(w:World):(Instr.typeAssert (.iface 68 v) 50 67 true).run Tryz.prog w=.ok (.tuple #[.int .i64 0,.bool false]) w:=by kernel_rfl
@[go_sem] theorem ta_69_69 (v:Value)(w:World):(Instr.typeAssert (.iface 69 v) 50 69 true).run Tryz.prog w=.ok (.tuple #[v,.bool true]) w:=by kernel_rfl
@[go_sem] theorem ta_69_66 (v:Value)(w:World):(Instr.typeAssert (.iface 69 v) 50 66 true).run Tryz.prog w=.ok (.tuple #[.bool false,.bool false]) w:=by kernel_rfl
@[go_sem] theorem ta_69_67 (v:Value)(w:World):(Instr.typeAssert (.iface 69 v) 50 67 true).run Tryz.prog w=.ok (.tuple #[.int .i64 0,.bool false]) w:=by kernel_rfl
@[go_sem] theorem ta_69_68 (v:Value)(w:World):(Instr.typeAssert (.iface 69 v) 50 68 true).run Tryz.prog w=.ok (.tuple #[.float .f64 0,.bool false]) w:=by kernel_rfl
@[go_sem] theorem ta_70_70 (v:Value)(w:World):(Instr.typeAssert (.iface 70 v) 50 70 true).run Tryz.prog w=.ok (.tuple #[v,.bool true]) w:=by kernel_rfl
@[go_sem] theorem ta_70_66 (v:Value)(w:World):(Instr.typeAssert (.iface 70 v) 50 66 true).run Tryz.prog w=.ok (.tuple #[.bool false,.bool false]) w:=by kernel_rfl
@[go_sem] theorem ta_70_67 (v:Value)(w:World):(Instr.typeAssert (.iface 70 v) 50 67 true).run Tryz.prog w=.ok (.tuple #[.int .i64 0,.bool false]) w:=by kernel_rfl
@[go_sem] theorem ta_70_68 (v:Value)(w:World):(Instr.typeAssert (.iface 70 v) 50 68 true).run Tryz.prog w=.ok (.tuple #[.float .f64 0,.bool false]) w:=by kernel_rfl
@[go_sem] theorem ta_70_69 (v:Value)(w:World):(Instr.typeAssert (.iface 70 v) 50 69 true).run Tryz.prog w=.ok (.tuple #[.string ⟨#[]⟩,.bool false]) w:=by kernel_rfl
@[go_sem] theorem ta_71_71 (v:Value)(w:World):(Instr.typeAssert (.iface 71 v) 50 71 true).run Tryz.prog w=.ok (.tuple #[v,.bool true]) w:=by kernel_rfl
@[go_sem] theorem ta_71_66 (v:Value)(w:World):(Instr.typeAssert (.iface 71 v) 50 66 true).run Tryz.prog w=.ok (.tuple #[.bool false,.bool false]) w:=by kernel_rfl
@[go_sem] theorem ta_71_67 (v:Value)(w:World):(Instr.typeAssert (.iface 71 v) 50 67 true).run Tryz.prog w=.ok (.tuple #[.int .i64 0,.bool false]) w:=by kernel_rfl
@[go_sem] theorem ta_71_68 (v:Value)(w:World):(Instr.typeAssert (.iface 71 v) 50 68 true).run Tryz.prog w=.ok (.tuple #[.float .f64 0,.bool false]) w:=by kernel_rfl
@[go_sem] theorem ta_71_69 (v:Value)(w:World):(Instr.typeAssert (.iface 71 v) 50 69 true).run Tryz.prog w=.ok (.tuple #[.string ⟨#[]⟩,.bool false]) w:=by kernel_rfl
@[go_sem] theorem ta_71_70 (v:Value)(w:World):(Instr.typeAssert (.iface 71 v) 50 70 true).run Tryz.prog w=.ok (.tuple #[.string ⟨#[]⟩,.bool false]) w:=by kernel_rfl
@[go_sem] theorem ta_73_73 (v:Value)(w:World):(Instr.typeAssert (.iface 73 v) 50 73 true).run Tryz.prog w=.ok (.tuple #[v,.bool true]) w:=by kernel_rfl
@[go_sem] theorem ta_73_66 (v:Value)(w:World):(Instr.typeAssert (.iface 73 v) 50 66 true).run Tryz.prog w=.ok (.tuple #[.bool false,.bool false]) w:=by kernel_rfl
@[go_sem] theorem ta_73_67 (v:Value)(w:World):(Instr.typeAssert (.iface 73 v) 50 67 true).run Tryz.prog w=.ok (.tuple #[.int .i64 0,.bool false]) w:=by kernel_rfl
@[go_sem] theorem ta_73_68 (v:Value)(w:World):(Instr.typeAssert (.iface 73 v) 50 68 true).run Tryz.prog w=.ok (.tuple #[.float .f64 0,.bool false]) w:=by kernel_rfl
@[go_sem] theorem ta_73_69 (v:Value)(w:World):(Instr.typeAssert (.iface 73 v) 50 69 true).run Tryz.prog w=.ok (.tuple #[.string ⟨#[]⟩,.bool false]) w:=by kernel_rfl
@[go_sem] theorem ta_73_70 (v:Value)(w:World):(Instr.typeAssert (.iface 73 v) 50 70 true).run Tryz.prog w=.ok (.tuple #[.string ⟨#[]⟩,.bool false]) w:=by kernel_rfl
@[go_sem] theorem ta_73_71 (v:Value)(w:World):(Instr.typeAssert (.iface 73 v) 50 71 true).run Tryz.prog w=.ok (.tuple #[.string ⟨#[]⟩,.bool false]) w:=by kernel_rfl
@[go_sem] theorem ta_77_77 (v:Value)(w:World):(Instr.typeAssert (.iface 77 v) 50 77 true).run Tryz.prog w=.ok (.tuple #[v,.bool true]) w:=by kernel_rfl
@[go_sem] theorem ta_77_66 (v:Value)(w:World):(Instr.typeAssert (.iface 77 v) 50 66 true).run Tryz.prog w=.ok (.tuple #[.bool false,.bool false]) w:=by kernel_rfl
@[go_sem] theorem ta_77_67 (v:Value)(w:World):(Instr.typeAssert (.iface 77 v) 50 67 true).run Tryz.prog w=.ok (.tuple #[.int .i64 0,.bool false]) w:=by kernel_rfl
@[go_sem] theorem ta_77_68 (v:Value)(w:World):(Instr.typeAssert (.iface 77 v) 50 68 true).run Tryz.prog w=.ok (.tuple #[.float .f64 0,.bool false]) w:=by kernel_rfl
@[go_sem] theorem ta_77_69 (v:Value)(w:World):(Instr.typeAssert (.iface 77 v) 50 69 true).run Tryz.prog w=.ok (.tuple #[.string ⟨#[]⟩,.bool false]) w:=by kernel_rfl
@[go_sem] theorem ta_77_70 (v:Value)(w:World):(Instr.typeAssert (.iface 77 v) 50 70 true).run Tryz.prog w=.ok (.tuple #[.string ⟨#[]⟩,.bool false]) w:=by kernel_rfl
@[go_sem] theorem ta_77_71 (v:Value)(w:World):(Instr.typeAssert (.iface 77 v) 50 71 true).run Tryz.prog w=.ok (.tuple #[.string ⟨#[]⟩,.bool false]) w:=by kernel_rfl
@[go_sem] theorem ta_77_73 (v:Value)(w:World):(Instr.typeAssert (.iface 77 v) 50 73 true).run Tryz.prog w=.ok (.tuple #[.agg #[.int .i64 0,.int .i64 0],.bool false]) w:=by kernel_rfl
@[go_sem] theorem ta_81_81 (v:Value)(w:World):(Instr.typeAssert (.iface 81 v) 50 81 true).run Tryz.prog w=.ok (.tuple #[v,.bool true]) w:=by kernel_rfl
@[go_sem] theorem ta_81_66 (v:Value)(w:World):(Instr.typeAssert (.iface 81 v) 50 66 true).run Tryz.prog w=.ok (.tuple #[.bool false,.bool false]) w:=by kernel_rfl
@[go_sem] theorem ta_81_67 (v:Value)(w:World):(Instr.typeAssert (.iface 81 v) 50 67 true).run Tryz.prog w=.ok (.tuple #[.int .i64 0,.bool false]) w:=by kernel_rfl
@[go_sem] theorem ta_81_68 (v:Value)(w:World):(Instr.typeAssert (.iface 81 v) 50 68 true).run Tryz.prog w=.ok (.tuple #[.float .f64 0,.bool false]) w:=by kernel_rfl
@[go_sem] theorem ta_81_69 (v:Value)(w:World):(Instr.typeAssert (.iface 81 v) 50 69 true).run Tryz.prog w=.ok (.tuple #[.string ⟨#[]⟩,.bool false]) w:=by kernel_rfl
@[go_sem] theorem ta_81_70 (v:Value)(w:World):(Instr.typeAssert (.iface 81 v) 50 70 true).run Tryz.prog w=.ok (.tuple #[.string ⟨#[]⟩,.bool false]) w:=by kernel_rfl
@[go_sem] theorem ta_81_71 (v:Value)(w:World):(Instr.typeAssert (.iface 81 v) 50 71 true).run Tryz.prog w=.ok (.tuple #[.string ⟨#[]⟩,.bool false]) w:=by kernel_rfl
@[go_sem] theorem ta_81_73 (v:Value)(w:World):(Instr.typeAssert (.iface 81 v) 50 73 true).run Tryz.prog w=.ok (.tuple #[.agg #[.int .i64 0,.int .i64 0],.bool false]) w:=by kernel_rfl
@[go_sem] theorem ta_81_77 (v:Value)(w:World):(Instr.typeAssert (.iface 81 v) 50 77 true).run Tryz.prog w=.ok (.tuple #[.slice none 0 0,.bool false]) w:=by kernel_rfl
open Go.Sort
theorem sort_row {w:World}{base:Nat}{so:Option Addr}{sn sc:Nat}{ss:List By}(hrow:w.ownsRow base 9 1 (.slice so sn sc) ss.length (ss.map encStr))(hl:ss.length≤1000000) :
  Calls Tryz.prog 78 #[.slice so sn sc] w fun e w'=>e=.returned (.tuple #[])∧w.grownBy w' (Value.slice so sn sc).ownBlock∧w'.ownsRow base 9 1 (.slice so sn sc) ss.length ((ss.mergeSort leBy).map encStr):=by
 rcases hrow.2 with⟨hnil,h0⟩|⟨g,cap,cur,he,hbase,hb,h1,h2,h3,h4⟩
 ·injection hnil with e1 e2 e3
  subst e1;subst e2;subst e3
  obtain rfl:ss=[]:=List.eq_nil_of_length_eq_zero h0;refine(Tryz.sort_Strings_none none 0 w).mono ?_;rintro e w'⟨rfl,rfl⟩;exact⟨rfl,xgr _ _,by simpa using hrow⟩
 ·injection he with e1 e2 e3
  subst e1;subst e2;subst e3
  have hH:Holds encStr w g 0 ss.toArray:=holds_of_block hb (by simpa using h4);refine(Tryz.sort_Strings g 0 sc ss w hH (xgl hb) (by omega)).mono ?_;rintro e w'⟨rfl,nn,os,rfl⟩;exact⟨rfl,grownBy_sorted _,ownsRow_sorted (by simp) hbase hb h1 h2 h3⟩
end Go.Proofs.YtfkecmlmnhbmoaaGreatDoor
namespace Go.Proofs.YtfkecmlmnhbmoaaGreatDoor
open Go Go.RowKit Go.Maps
theorem calm_idle (p:Addr)(w:World) :
  CallsD Tryz.prog 41 #[.pointer (some p)] .returning w fun e u' w'=>e=.returned (.tuple #[])∧u'=.returning∧w'=w:=by
 refine callsD_of_wpS Tryz.func41 rfl fun c₀ cs hu=>?_;apply wpS_seq;apply wpS_region;simp[wpOpsS,go_sem,recoverD,hu,Tryz.ntmps41,Exit.thenS];refine wpS_cond (t:=false) (by simp[Act.eval,Array.replicate]) ?_;simp only[Bool.false_eq_true,if_false];refine wpS_of_wp (wp_skip ?_)
 cases c₀
 simp_all[bodyPostS,results,Tryz.results41]
theorem bs_all {s:By}{P:UInt8→Prop}(h:∀c∈s,P c)(i:Nat)(hi:i<(bs s).size):P ((bs s)[i]):=by
 have hl:i<s.length:=by rwa [bs_size]at hi
 exact h _ (List.getElem_mem (l:=s) hl)
theorem litbytes_any (s t:By)(h:litF (40::(s++[41])) 0 []=some (t,[]))(hl:s.length≤1000000)(w:World):Calls Tryz.prog 33 #[.string (bs s)] w fun e w'=>e=.returned (.tuple #[.string (bs t),.bool true])∧w.grownBy w' none:=by
 have e1:(⟨#[40]⟩:ByteArray)=bs [40]:=rfl;have e2:(⟨#[41]⟩:ByteArray)=bs [41]:=rfl;have ha:bs [40]++bs s=bs (40::s):=bs_append [40] s;have ha2:bs (40::s)++bs [41]=bs (40::(s++[41])):=bs_append (40::s) [41];have hn1:¬9223372036854775807<(bs [40]).size+(bs s).size:=by rw[bs_size,bs_size];simp;omega
 have hn2:¬9223372036854775807<(bs (40::s)).size+(bs [41]).size:=by rw[bs_size,bs_size];simp;omega
 have hR0:∀z,z=bs (40::(s++[41]))→RdAt (w.alloc (.cells #[.string z,.int .i64 0,.int .i64 0,.int .i64 0,.bool false,.bool false] 57 (0,0))) w.heap.size z [] (40::(s++[41])) 0 0 false false:=fun z hz=>⟨by rw[hz,bs_list];rfl,heap_alloc_new _ _⟩;have hg0:∀o,w.grownBy (w.alloc o) none:=fun o=>gr_alloc (xgr w none) _;have hz3:(bs (40::(s++[41]))).size≤140737488351240:=by rw[bs_size];simp;omega
 generalize hz:bs (40::(s++[41]))=z at *;have hR1:=hR0 z rfl;generalize bs (40::s)=z1 at *;generalize bs s=z0 at *;have hl46:=lit_any _ _ _ _ _ _ _ _ _ hR1 hz3;rw[h]at hl46;have Hg0:=xhd hg0;have Hsz:=xhd (show (z.size:Int)=(40::(s++[41])).length by rw[←hz,bs_size]);clear hg0 hR0 hR1 hz3 h hz;go_enter Tryz.func33,Tryz.ntmps33;go_wp2_with fail
 refine hl46.mono ?_;rintro e w1⟨rfl,⟨p',hR⟩,hg1⟩;have hG1:w.grownBy w1 none:=gr_noneThen (Hg0.out _) hg1 (fun k hk=>by injection hk with hk;omega);obtain⟨c0,c1,c2,c3,c4,c5,cf⟩:=hR.cells;have hps:p'.length=z.size:=by have:=hR.size;simpa using this.symm
 rw[hps]at c1;have HG1:=xhd hG1;have Hbt:=xhd (show (⟨t.toArray⟩:ByteArray)=bs t from rfl);clear hR hg1 hG1 hl46 hps;go_wp2_with fail
 go_quiet (fail);go_wp2_with fail
 go_ret2;exact⟨rfl,by first|exact HG1.out|exact gr_drew HG1.out|exact gr_drewN HG1.out _⟩
theorem hexVal_nn {s:By}(h:∀c∈s,0≤hexVal (c.toNat:Int))(i:Nat)(hi:i<(bs s).size):¬hexVal (((bs s)[i]).toNat:Int)<0:=by
 have:0≤hexVal (((bs s)[i]).toNat:Int):=bs_all (P:=fun c=>0≤hexVal (c.toNat:Int)) h i hi;omega
theorem hexbytes_any (s t:By)(hs:∀c∈s,0≤hexVal (c.toNat:Int))(h:hexF (s++[62]) false 0 [] false=(0,t,[],false))(hl:s.length≤140737488351232)(w:World):Calls Tryz.prog 34 #[.string (bs s)] w fun e w'=>e=.returned (.tuple #[.string (bs t),.bool true])∧w.grownBy w' none:=by
 have e1:(⟨#[60]⟩:ByteArray)=bs [60]:=rfl;have e2:(⟨#[62]⟩:ByteArray)=bs [62]:=rfl;have ha:bs [60]++bs s=bs (60::s):=bs_append [60] s;have ha2:bs (60::s)++bs [62]=bs (60::(s++[62])):=bs_append (60::s) [62];have hn1:¬9223372036854775807<(bs [60]).size+(bs s).size:=by rw[bs_size,bs_size];simp;omega
 have hn2:¬9223372036854775807<(bs (60::s)).size+(bs [62]).size:=by rw[bs_size,bs_size];simp;omega
 have hR0:∀z,z=bs (60::(s++[62]))→RdAt (w.alloc (.cells #[.string z,.int .i64 0,.int .i64 0,.int .i64 0,.bool false,.bool false] 57 (0,0))) w.heap.size z [] (60::(s++[62])) 0 0 false false:=fun z hz=>⟨by rw[hz,bs_list];rfl,heap_alloc_new _ _⟩;have hg0:∀o,w.grownBy (w.alloc o) none:=fun o=>gr_alloc (xgr w none) _;have hz3:(bs (60::(s++[62]))).size≤140737488351240:=by rw[bs_size];simp;omega
 have hvv:=hexVal_nn hs;have hsz:(bs s).size≤140737488351232:=by rw[bs_size];exact hl
 generalize hz:bs (60::(s++[62]))=z at *;have hR1:=hR0 z rfl;generalize bs (60::s)=z1 at *;generalize bs s=z0 at *;have hl46:=hexs_any _ _ _ _ _ _ _ _ _ _ hR1 hz3;rw[h]at hl46;obtain⟨Hg0,Hvv,Hl46⟩:=xh3 hg0 hvv hl46;clear hg0 hR0 hR1 hz3 h hz hs hvv hl46;go_enter Tryz.func34,Tryz.ntmps34;go_wp2_with fail
 go_loopg [9] z0.size (fun g t9 wr=>∃i,t9=.int .i64 (i:Nat)∧i≤z0.size∧g=z0.size-i∧wr=w)
 case atStart=>exact⟨0,rfl,Nat.zero_le _,rfl,rfl⟩
 case round =>
  obtain⟨i,rfl,hi,hg,rfl⟩:=hrel;have Hg:=xhd hg;clear hg
  by_cases hiz:i<z0.size
  ·have hrg:=bi_range (z0[i])
   have hx:=hex_any ((z0[i]).toNat:Int) hrg.1 hrg.2;have hv:¬hexVal ((z0[i]).toNat:Int)<0:=by have:=Hvv.out i hiz;omega
   generalize hexVal ((z0[i]).toNat:Int)=hh at hx hv;have hnm:(i:Int)<z0.size:=by omega
   have hwi:IntKind.i64.wrap ((i:Int)+1)=(i:Int)+1:=IntWalk.i64_in _ (by omega);clear hrg;go_wp2_with fail
   refine(hx _).mono ?_;rintro e w2⟨rfl,hw2⟩;subst w2;go_wp2_with fail
   go_roundg (z0.size-(i+1))
   case measure=>rw[Hg.out];omega
   case rel=>exact⟨i+1,by simp,by omega,rfl,rfl⟩
  ·have hie:i=z0.size:=by omega
   have hnm:¬(i:Int)<z0.size:=by omega
   go_wp2_with fail
   refine Hl46.out.mono ?_;rintro e w1⟨rfl,⟨p',hR⟩,hg1⟩;have hG1:wr.grownBy w1 none:=gr_noneThen (Hg0.out _) hg1 (fun k hk=>by injection hk with hk;omega);obtain⟨c0,c1,c2,c3,c4,c5,cf⟩:=hR.cells;simp only[if_true]at c2;have HG1:=xhd hG1;have Hbt:=xhd (show (⟨t.toArray⟩:ByteArray)=bs t from rfl);clear hR hg1 hG1;go_wp2_with fail
   go_quiet (fail);go_wp2_with fail
   go_ret2;exact⟨rfl,by first|exact HG1.out|exact gr_drew HG1.out|exact gr_drewN HG1.out _⟩
end Go.Proofs.YtfkecmlmnhbmoaaGreatDoor
