/- Parts F15 G5 G10 G11 G12 G13 G15 C3 J2 J3. -/
import Derived.Test.YtfkecmlmnhbmoaaGreatDoorW24
set_option linter.unusedVariables false
set_option linter.unusedSimpArgs false
set_option maxRecDepth 100000
set_option maxHeartbeats 40000000
namespace Go.Proofs.YtfkecmlmnhbmoaaGreatDoor
open Go Go.RowKit
theorem run_frombits (n:Int)(w:World):(callFunc 152 #[.int .u64 n]).run Tryz.prog w=.ok (.value (.float .f64 n.toNat)) w:=by
 rw[run_callFunc_extern Tryz.func152 (by kernel_rfl) (by kernel_rfl) (by kernel_rfl) (e:=Extern.MathFloatBits.float64frombits) (by kernel_rfl)];rfl
theorem pack_ex (m e:Int)(h0:0≤m)(h1:m≤18446744073709551615)(hm:m%9223372036854775808≤9007199254740992)(h2:-1000≤e)(h3:e<972):∃x:Nat,nnF x∧∀w:World,Calls Tryz.prog 202 #[.int .u64 m,.int .i64 e] w fun e w'=>e=.returned (.tuple #[.float .f64 x,.nilIface])∧w'=w:=by
 have hfb:=run_frombits;rcases xbt (bits BinOp.and IntKind.u64 m 4503599627370496==0) with hb|hb
 all_goals
  have Hm:=xhd hm;clear hm;apply Exists.intro;refine⟨?_,fun w=>?_⟩
  rotate_left
  go_enter Tryz.func202,Tryz.ntmps202;go_wp2_with fail
  go_ret2;exact⟨rfl,rfl⟩
  first
   | exact pack_nn m e h0 h1 Hm.out h2 h3 hb
   | exact nnF_of (by have:=Hm.out;omega) (by have:=Hm.out;omega)
theorem b2_t (w:World):Calls Tryz.prog 151 #[.bool true] w fun e w'=>e=.returned (.int .u64 1)∧w'=w:=by
 go_enter Tryz.func151,Tryz.ntmps151;go_wp2_with fail
 go_ret;exact⟨rfl,rfl⟩
theorem b2_f (w:World):Calls Tryz.prog 151 #[.bool false] w fun e w'=>e=.returned (.int .u64 0)∧w'=w:=by
 go_enter Tryz.func151,Tryz.ntmps151;go_wp2_with fail
 go_ret;exact⟨rfl,rfl⟩
theorem or_range (a b:Int):0≤bits BinOp.or IntKind.u64 a b∧bits BinOp.or IntKind.u64 a b≤18446744073709551615:=bits_within .or .u64 a b
theorem us_ex (x hi lo:Nat)(hx:x<18446744073709551616)(hh:hi<18446744073709551616)(hl:lo<18446744073709551616) :
  ∃u:Int,(0≤u∧u≤72057594037927935)∧∀(w:World) (pb:Nat),w.cell? ⟨pb,0,none⟩=some (.int .u64 hi)→w.cell? ⟨pb,1,none⟩=some (.int .u64 lo)→w.cell? ⟨pb,2,none⟩=some (.int .i64 8) →
  Calls Tryz.prog 162 #[.int .u64 x,.pointer (some ⟨pb,0,none⟩)] w fun e w'=>e=.returned (.int .u64 u)∧∃n,w'=w.drewN n:=by
 have hb8:bits BinOp.and IntKind.i64 8 63=8:=by decide
 obtain⟨H,hH⟩:∃H,H=x*hi/18446744073709551616:=⟨_,rfl⟩;obtain⟨M,hM⟩:∃M,M=x*hi%18446744073709551616:=⟨_,rfl⟩;obtain⟨M2,hM2⟩:∃M2,M2=x*lo/18446744073709551616:=⟨_,rfl⟩;have hHb:H<18446744073709551616:=by rw[hH];exact Nat.div_lt_of_lt_mul (Nat.mul_lt_mul'' hx hh)
 have hMb:M<18446744073709551616:=by rw[hM];exact Nat.mod_lt _ (by decide)
 have hM2b:M2<18446744073709551616:=by rw[hM2];exact Nat.div_lt_of_lt_mul (Nat.mul_lt_mul'' hx hl)
 obtain⟨HH,HM,HM2⟩:=xh3 hH hM hM2;clear hH hM hM2
 rcases xbt ((H:Int)/256*256 != (H:Int)) with hc1|hc1
 ·apply Exists.intro
  refine⟨?_,fun w pb c0 c1 c2=>?_⟩
  rotate_left
  go_enter Tryz.func162,Tryz.ntmps162;go_wp2_with fail
  refine(Tryz.bits_Mul64 x hi hx hh _).mono ?_;rintro e w1⟨rfl,hw⟩;subst w1;rw[←HH.out,←HM.out];go_wp2_with fail
  go_ret;exact⟨rfl,0,rfl⟩;refine or_lt56 ?_ ?_ ?_ ?_<;>first|decide|omega|(rw[IntKind.wrap_u64];omega)
 ·by_cases hlt:M<M2
  ·rcases xbt (decide (1<IntKind.u64.wrap ((M:Int)-(M2:Int)))) with hd|hd
   all_goals
    apply Exists.intro;refine⟨?_,fun w pb c0 c1 c2=>?_⟩
    rotate_left
    go_enter Tryz.func162,Tryz.ntmps162;go_wp2_with fail
    refine(Tryz.bits_Mul64 x hi hx hh _).mono ?_;rintro e w1⟨rfl,hw⟩;subst w1;rw[←HH.out,←HM.out];go_wp2_with fail
    refine(Tryz.bits_Mul64 x lo hx hl _).mono ?_;rintro e w1⟨rfl,hw⟩;subst w1;rw[←HM2.out];go_wp2_with fail
    first
     | refine(b2_t _).mono ?_
     | refine(b2_f _).mono ?_
    rintro e w1⟨rfl,hw⟩;subst w1;go_wp2_with fail
    go_quiet ((go_at_call 151;with_reducible first|exact Calls.quiet_of_same (b2_t _)|exact Calls.quiet_of_same (b2_f _)))
    go_wp2_with fail
    go_ret;exact⟨rfl,_,rfl⟩;refine or_lt56 ?_ ?_ ?_ ?_<;>first|decide|omega|(rw[IntKind.wrap_u64];omega)
  ·rcases xbt (decide (1<(M:Int)-(M2:Int))) with hd|hd
   all_goals
    apply Exists.intro;refine⟨?_,fun w pb c0 c1 c2=>?_⟩
    rotate_left
    go_enter Tryz.func162,Tryz.ntmps162;go_wp2_with fail
    refine(Tryz.bits_Mul64 x hi hx hh _).mono ?_;rintro e w1⟨rfl,hw⟩;subst w1;rw[←HH.out,←HM.out];go_wp2_with fail
    refine(Tryz.bits_Mul64 x lo hx hl _).mono ?_;rintro e w1⟨rfl,hw⟩;subst w1;rw[←HM2.out];go_wp2_with fail
    first
     | refine(b2_t _).mono ?_
     | refine(b2_f _).mono ?_
    rintro e w1⟨rfl,hw⟩;subst w1;go_wp2_with fail
    go_quiet ((go_at_call 151;with_reducible first|exact Calls.quiet_of_same (b2_t _)|exact Calls.quiet_of_same (b2_f _)))
    go_wp2_with fail
    go_ret;exact⟨rfl,_,rfl⟩;refine or_lt56 ?_ ?_ ?_ ?_<;>first|decide|omega|(rw[IntKind.wrap_u64];omega)
structure FInit2 (W0:World):Prop extends FInit W0 where
 p10:∀i:Nat,i<696→∃h l:Nat,h<18446744073709551616∧l<18446744073709551616∧W0.cell? ⟨21,i*2,Option.none⟩=some (.int .u64 h)∧W0.cell? ⟨21,i*2+1,Option.none⟩=some (.int .u64 l)
 p64:∃fb fo fc,W0.cell? ⟨20,0,Option.none⟩=some (.slice (some ⟨fb,fo,Option.none⟩) 23 fc)∧∀i:Nat,i<23→∃x:Nat,W0.cell? ⟨fb,fo+i,Option.none⟩=some (.float .f64 x)
theorem pre_any (w:World)(pb:Nat)(e p lp:Int)(i hi lo:Nat)(T:TypeId)(v0 v1 v2:Value)(hi9:p+348=i)(hi696:i<696)(hne:¬pb=21)(t0:w.cell? ⟨21,i*2,none⟩=some (.int .u64 hi))(t1:w.cell? ⟨21,i*2+1,none⟩=some (.int .u64 lo))
  (hb:w.heap[pb]?=some (.cells #[v0,v1,v2] T (0,0)))(he1:-10000≤e)(he2:e≤10000)(hl1:-10000≤lp)(hl2:lp≤10000) :
  Calls Tryz.prog 160 #[.pointer (some ⟨pb,0,none⟩),.int .i64 e,.int .i64 p,.int .i64 lp] w fun e' w'=>e'=.returned (.tuple #[])∧w'.heap[pb]?=some (.cells #[.int .u64 hi,.int .u64 lo,.int .i64 (-(e+lp+3))] T (0,0))∧w.grownBy w' (some pb):=by
 have c0:w.cell? ⟨pb,0,none⟩=some v0:=by simp[World.cell?,hb]
 have c1:w.cell? ⟨pb,1,none⟩=some v1:=by simp[World.cell?,hb]
 have c2:w.cell? ⟨pb,2,none⟩=some v2:=by simp[World.cell?,hb]
 have cf:∀j,w.frozen? ⟨pb,j,none⟩=false:=by simp[World.frozen?,hb]
 have hp1:-348≤p:=by omega
 have hp2:p≤347:=by omega
 have hne2:¬21=pb:=fun x=>hne x.symm;have HB:=xhd hb;clear hb
 go_enter Tryz.func160,Tryz.ntmps160;go_wp2_with fail
 go_end0;refine⟨rfl,?_,gr_set (gr_set (gr_set (xgr w (some pb)) _ _) _ _) _ _⟩;simp[World.setCell,Array.getElem?_modify,HB.out]
structure ErrAB (W0:World)(a b:Addr)(ca cb:Array Value):Prop where
 syn:W0.cell? ⟨2,0,Option.none⟩=some (.iface 233 (.pointer (some a)))
 ran:W0.cell? ⟨3,0,Option.none⟩=some (.iface 233 (.pointer (some b)))
 ne:a≠b
 ha:∃t,W0.heap[a.block]?=some (.cells ca t (0,0))
 hb:∃t,W0.heap[b.block]?=some (.cells cb t (0,0))
def hexR (h:Int×By×By×Bool):Rd PV:=if h.1==0 then some (.str h.2.1,h.2.2.1,h.2.2.2) else none
theorem val_nil (w:World)(b:Nat)(s:ByteArray)(p l:By)(deep:Int)(hd0:0≤deep)(hd1:deep≤49)(odd ends:Bool)(hR:RdAt w b s p l 0 deep odd ends)(hs:s.size≤1000000000)(oa:Bool)(hP:passM false l odd=([],oa)) :
  Calls Tryz.prog 28 #[.pointer (some ⟨b,0,none⟩)] w fun e w'=>VPost w w' b s deep ends e none:=by
 have hbB:=hR.lt;have HR:=xhd hR;clear hR
 have hal:=alloc2 w w.heap.size rfl (.cells #[.pointer (some ⟨b,0,none⟩)] 55 (0,0)) (.cells #[.int .i64 0,.int .i64 0,.int .i64 0,.float .f64 0,.string ⟨#[]⟩,.slice none 0 0,.slice none 0 0] 30 (0,0));have hmf:∀(fn:Fn) (first cap:Array Value) (w:World),(Instr.makeFunc fn first cap).run Tryz.prog w=.ok (.func fn first cap) w:=fun _ _ _ _=>rfl
 go_enter_defers Tryz.func28,Tryz.ntmps28
 go_wp2_with fail
 refine(pass_any _ b s p l 0 deep odd ends (by exact(HR.out.alloc _).alloc _) (by omega)).mono ?_;rintro e w1⟨rfl,⟨p1,hR1⟩,hg1⟩;have hb1:=keep hg1 hal.1 (by simp;omega);have hb2:=keep hg1 hal.2 (by simp;omega);have hlt1:w.heap.size+1<w1.heap.size:=(xgl hb2);have HG1:=xhd (gr_same (gr_alloc (gr_alloc (xgr w (some b)) _) _) hg1);obtain⟨HB1,HB2⟩:=xh2 hb1 hb2;have d0:w1.cell? ⟨w.heap.size,0,none⟩=some (.pointer (some ⟨b,0,none⟩)):=by simp[World.cell?,hb1]
 rw[hP]at hR1;simp only at hR1;obtain⟨c0,c1,c2,c3,c4,c5,cf⟩:=hR1.cells;have hsz1:=hR1.size;have HR1:=xhd hR1;have hnb1:¬w.heap.size=b:=by omega
 have hnb2:¬w.heap.size+1=b:=by omega
 have hp1:p1.length≤s.size:=by omega
 have Hsz1:=xhd hsz1;clear hg1 hal hb1 hb2 hR1 hsz1;go_wp2_with fail
 have hle:s.size≤p1.length:=by have:=Hsz1.out;simp at this;omega
 have HR2:=xhd (HR1.out.set3 (deep+1));have HG2:=xhd (gr_set HG1.out 3 (.int .i64 (deep+1)));have hlt2:w.heap.size+1<(w1.setCell ⟨b,3,none⟩ (.int .i64 (deep+1))).heap.size:=by simp;omega
 have HB3:=xhd ((Below.heap_setCell w1 ⟨b,3,none⟩ (.int .i64 (deep+1)) w.heap.size (by simp;omega)).trans HB1.out);have HB4:=xhd ((Below.heap_setCell w1 ⟨b,3,none⟩ (.int .i64 (deep+1)) (w.heap.size+1) (by simp;omega)).trans HB2.out);obtain⟨w2,hw2⟩:∃w2,w2=w1.setCell ⟨b,3,none⟩ (.int .i64 (deep+1)):=⟨_,rfl⟩;rw[←hw2]at HR2 HG2 HB3 HB4 hlt2⊢;clear hw2 HR1 HG1 HB1 HB2 c0 c1 c2 c3 c4 c5 cf d0 hlt1;obtain⟨c0,c1,c2,c3,c4,c5,cf⟩:=HR2.out.cells;have d0:w2.cell? ⟨w.heap.size,0,none⟩=some (.pointer (some ⟨b,0,none⟩)):=by simp[World.cell?,HB3.out]
 go_quiet ((go_at_call 52;with_reducible first|exact qad _|exact qbd _));go_wp2_with fail
 cases ends
 ·(refine wp_region_quiet_tail 14 (by kernel_rfl) (by kernel_rfl) ?_;simp only[List.take_succ_cons,List.take_zero,List.drop_succ_cons,List.drop_zero];(repeat (go_big_quiet_step ((go_at_call 52;with_reducible first|exact qad _|exact qbd _))));refine wpQuiet_nil ?_;intro _ hwt;obtain⟨nt,hwt'⟩:=hwt;subst hwt';go_wp2_with fail)
  refine(fail_any _ b s p1 [] 0 (deep+1) oa (decide (1<deep+1)) (by exact(HR2.out.drewN _).set5 _) 1).mono ?_;rintro e w3⟨rfl,hR3,hg3'⟩;have hg3:w2.grownBy w3 (some b):=gr_same (gr_set (gr_drewN (xgr w2 (some b)) _) _ _) hg3';clear hg3';unfold zeroV;have hz3:=keep hg3 HB4.out (by simp;omega);have hx3:=keep hg3 HB3.out (by simp;omega);have HG3:=xhd (gr_same HG2.out (show w2.grownBy w3 (some b) from⟨hg3.os,hg3.tape,hg3.output,hg3.size,hg3.block⟩));have hlt3:w.heap.size+1<w3.heap.size:=(xgl hz3);obtain⟨z0,z1,z2,z3,z4,z5,z6,zf⟩:=zb_cells hz3;obtain⟨HZ3,HX3,HR3⟩:=xh3 hz3 hx3 hR3;clear hR3
  clear hz3 hx3 hg3 c0 c1 c2 c3 c4 c5 cf d0 HG2 HR2 HB3 HB4;go_wp2_with fail
  refine val_door HX3.out HZ3.out HR3.out HG3.out hbB hd0 (by omega) rfl ?_;intro w' g1 g2 g3 g4;exact⟨_,rfl,⟨_,_,_,_,_,_,_,_,_,_,_,rfl⟩,⟨p1,[],oa,failB 0 1,(decide (1<deep+1)),failB_ne _ _ (by decide),g1⟩,g2⟩
 ·(refine wp_region_quiet_tail 14 (by kernel_rfl) (by kernel_rfl) ?_;simp only[List.take_succ_cons,List.take_zero,List.drop_succ_cons,List.drop_zero];(repeat (go_big_quiet_step ((go_at_call 52;with_reducible first|exact qad _|exact qbd _))));refine wpQuiet_nil ?_;intro _ hwt;obtain⟨nt,hwt'⟩:=hwt;subst hwt';go_wp2_with fail)
  refine(fail_any _ b s p1 [] 0 (deep+1) oa (true) (by exact(HR2.out.drewN _).set5 _) 1).mono ?_;rintro e w3⟨rfl,hR3,hg3'⟩;have hg3:w2.grownBy w3 (some b):=gr_same (gr_set (gr_drewN (xgr w2 (some b)) _) _ _) hg3';clear hg3';unfold zeroV;have hz3:=keep hg3 HB4.out (by simp;omega);have hx3:=keep hg3 HB3.out (by simp;omega);have HG3:=xhd (gr_same HG2.out (show w2.grownBy w3 (some b) from⟨hg3.os,hg3.tape,hg3.output,hg3.size,hg3.block⟩));have hlt3:w.heap.size+1<w3.heap.size:=(xgl hz3);obtain⟨z0,z1,z2,z3,z4,z5,z6,zf⟩:=zb_cells hz3;obtain⟨HZ3,HX3,HR3⟩:=xh3 hz3 hx3 hR3;clear hR3
  clear hz3 hx3 hg3 c0 c1 c2 c3 c4 c5 cf d0 HG2 HR2 HB3 HB4;go_wp2_with fail
  refine val_door HX3.out HZ3.out HR3.out HG3.out hbB hd0 (by omega) rfl ?_;intro w' g1 g2 g3 g4;exact⟨_,rfl,⟨_,_,_,_,_,_,_,_,_,_,_,rfl⟩,⟨p1,[],oa,failB 0 1,(true),failB_ne _ _ (by decide),g1⟩,g2⟩
theorem val_hex (w:World)(b:Nat)(s:ByteArray)(p l:By)(deep:Int)(hd0:0≤deep)(hd1:deep≤49)(odd ends:Bool)(hR:RdAt w b s p l 0 deep odd ends)(hs:s.size≤1000000000)(oa:Bool)(c:UInt8)(la:By)(hP:passM false l odd=(c::la,oa))(h40:((c.toNat:Int)==40)=false)(hd:is2 (c::la) 60=false)(h60:((c.toNat:Int)==60)=true) :
  Calls Tryz.prog 28 #[.pointer (some ⟨b,0,none⟩)] w fun e w'=>VPost w w' b s deep ends e (hexR (hexF la false 0 [] oa)):=by
 have hbB:=hR.lt;have HR:=xhd hR;clear hR
 have hal:=alloc2 w w.heap.size rfl (.cells #[.pointer (some ⟨b,0,none⟩)] 55 (0,0)) (.cells #[.int .i64 0,.int .i64 0,.int .i64 0,.float .f64 0,.string ⟨#[]⟩,.slice none 0 0,.slice none 0 0] 30 (0,0));have hmf:∀(fn:Fn) (first cap:Array Value) (w:World),(Instr.makeFunc fn first cap).run Tryz.prog w=.ok (.func fn first cap) w:=fun _ _ _ _=>rfl
 go_enter_defers Tryz.func28,Tryz.ntmps28
 go_wp2_with fail
 refine(pass_any _ b s p l 0 deep odd ends (by exact(HR.out.alloc _).alloc _) (by omega)).mono ?_;rintro e w1⟨rfl,⟨p1,hR1⟩,hg1⟩;have hb1:=keep hg1 hal.1 (by simp;omega);have hb2:=keep hg1 hal.2 (by simp;omega);have hlt1:w.heap.size+1<w1.heap.size:=(xgl hb2);have HG1:=xhd (gr_same (gr_alloc (gr_alloc (xgr w (some b)) _) _) hg1);obtain⟨HB1,HB2⟩:=xh2 hb1 hb2;have d0:w1.cell? ⟨w.heap.size,0,none⟩=some (.pointer (some ⟨b,0,none⟩)):=by simp[World.cell?,hb1]
 rw[hP]at hR1;simp only at hR1;obtain⟨c0,c1,c2,c3,c4,c5,cf⟩:=hR1.cells;have hsz1:=hR1.size;have HR1:=xhd hR1;have hnb1:¬w.heap.size=b:=by omega
 have hnb2:¬w.heap.size+1=b:=by omega
 have hp1:p1.length≤s.size:=by omega
 have Hsz1:=xhd hsz1;clear hg1 hal hb1 hb2 hR1 hsz1;go_wp2_with fail
 have hlt:p1.length<s.size:=by have:=Hsz1.out;simp at this;omega
 obtain⟨hk,hget⟩:=HR1.out.head;have hle:¬s.size≤p1.length:=by omega
 have HR2:=xhd (HR1.out.set3 (deep+1));have HG2:=xhd (gr_set HG1.out 3 (.int .i64 (deep+1)));have hlt2:w.heap.size+1<(w1.setCell ⟨b,3,none⟩ (.int .i64 (deep+1))).heap.size:=by simp;omega
 have HB3:=xhd ((Below.heap_setCell w1 ⟨b,3,none⟩ (.int .i64 (deep+1)) w.heap.size (by simp;omega)).trans HB1.out);have HB4:=xhd ((Below.heap_setCell w1 ⟨b,3,none⟩ (.int .i64 (deep+1)) (w.heap.size+1) (by simp;omega)).trans HB2.out);obtain⟨w2,hw2⟩:∃w2,w2=w1.setCell ⟨b,3,none⟩ (.int .i64 (deep+1)):=⟨_,rfl⟩;rw[←hw2]at HR2 HG2 HB3 HB4 hlt2⊢;clear hw2 HR1 HG1 HB1 HB2 c0 c1 c2 c3 c4 c5 cf d0 hlt1;obtain⟨c0,c1,c2,c3,c4,c5,cf⟩:=HR2.out.cells;have d0:w2.cell? ⟨w.heap.size,0,none⟩=some (.pointer (some ⟨b,0,none⟩)):=by simp[World.cell?,HB3.out]
 go_quiet ((go_at_call 52;with_reducible first|exact qad _|exact qbd _));go_wp2_with fail
 go_quiet ((go_at_call 52;with_reducible first|exact qad _|exact qbd _));go_wp2_with fail
 refine(is_any _ b s p1 (c::la) 0 (deep+1) oa ends (by exact HR2.out.drewN _) (by omega) ⟨#[60,60]⟩ (by decide)).mono ?_;rintro e w2'⟨rfl,n2,hw2'⟩;have hpre:(⟨#[60,60]⟩:ByteArray).data.toList.isPrefixOf (c::la)=is2 (c::la) 60:=pre2 60 (c::la);rw[hpre,hd];clear hpre;subst w2';go_wp2_with fail
 go_quiet ((go_at_call 52;with_reducible first|exact qad _|exact qbd _));go_wp2_with fail
 refine(hexs_any _ b s p1 la c 0 (deep+1) oa ends (by exact HR2.out.drewN _) (by omega)).mono ?_;intro e w3 hP3;obtain⟨hh,hhe⟩:∃hh,hh=hexF la false 0 [] oa:=⟨_,rfl⟩;rw[←hhe]at hP3;obtain⟨h1,t,r,o2⟩:=hh;have Hhe:=xhd hhe;clear hhe
 obtain⟨rfl,⟨p3,hR3⟩,hg3⟩:=hP3;simp only at hR3;have hz3:=keep hg3 HB4.out (by simp;omega);have hx3:=keep hg3 HB3.out (by simp;omega);have HG3:=xhd (gr_same HG2.out (show w2.grownBy w3 (some b) from⟨hg3.os,hg3.tape,hg3.output,hg3.size,hg3.block⟩));have hlt3:w.heap.size+1<w3.heap.size:=(xgl hz3);obtain⟨z0,z1,z2,z3,z4,z5,z6,zf⟩:=zb_cells hz3;obtain⟨HZ3,HX3,HR3⟩:=xh3 hz3 hx3 hR3;clear hR3
 clear hz3 hx3 hg3 c0 c1 c2 c3 c4 c5 cf d0 HG2 HR2 HB3 HB4;go_wp2_with fail
 refine val_door HX3.out HZ3.out HR3.out HG3.out hbB hd0 (by omega) rfl ?_;intro w' g1 g2 g3 g4;rw[←Hhe.out];unfold hexR;simp only
 by_cases h0:h1=0
 ·rw[if_pos (by simpa using h0)]
  rw[if_pos h0]at g1;exact⟨nilS,nilS,fun _=>False,rfl,IsV.plain (by trivial),fun k hk=>hk.elim,⟨p3,g1⟩,g2⟩
 ·rw[if_neg (by simpa using h0)]
  rw[if_neg h0]at g1;exact⟨_,rfl,⟨_,_,_,_,_,_,_,_,_,_,_,rfl⟩,⟨p3,r,o2,failB 0 h1,ends,failB_ne _ _ h0,g1⟩,g2⟩
theorem val_name (w:World)(b:Nat)(s:ByteArray)(p l:By)(deep:Int)(hd0:0≤deep)(hd1:deep≤49)(odd ends:Bool)(hR:RdAt w b s p l 0 deep odd ends)(hs:s.size≤1000000000)(oa:Bool)(c:UInt8)(la:By)(hP:passM false l odd=(c::la,oa))(h40:((c.toNat:Int)==40)=false)(hd:is2 (c::la) 60=false)(h60:((c.toNat:Int)==60)=false)(h47:((c.toNat:Int)==47)=true) :
  Calls Tryz.prog 28 #[.pointer (some ⟨b,0,none⟩)] w fun e w'=>VPost w w' b s deep ends e ((nameB (wordT la) []).map fun k=>(.name k,wordR la,wordO la oa)):=by
 have hbB:=hR.lt;have HR:=xhd hR;clear hR
 have hal:=alloc2 w w.heap.size rfl (.cells #[.pointer (some ⟨b,0,none⟩)] 55 (0,0)) (.cells #[.int .i64 0,.int .i64 0,.int .i64 0,.float .f64 0,.string ⟨#[]⟩,.slice none 0 0,.slice none 0 0] 30 (0,0));have hmf:∀(fn:Fn) (first cap:Array Value) (w:World),(Instr.makeFunc fn first cap).run Tryz.prog w=.ok (.func fn first cap) w:=fun _ _ _ _=>rfl
 go_enter_defers Tryz.func28,Tryz.ntmps28
 go_wp2_with fail
 refine(pass_any _ b s p l 0 deep odd ends (by exact(HR.out.alloc _).alloc _) (by omega)).mono ?_;rintro e w1⟨rfl,⟨p1,hR1⟩,hg1⟩;have hb1:=keep hg1 hal.1 (by simp;omega);have hb2:=keep hg1 hal.2 (by simp;omega);have hlt1:w.heap.size+1<w1.heap.size:=(xgl hb2);have HG1:=xhd (gr_same (gr_alloc (gr_alloc (xgr w (some b)) _) _) hg1);obtain⟨HB1,HB2⟩:=xh2 hb1 hb2;have d0:w1.cell? ⟨w.heap.size,0,none⟩=some (.pointer (some ⟨b,0,none⟩)):=by simp[World.cell?,hb1]
 rw[hP]at hR1;simp only at hR1;obtain⟨c0,c1,c2,c3,c4,c5,cf⟩:=hR1.cells;have hsz1:=hR1.size;have HR1:=xhd hR1;have hnb1:¬w.heap.size=b:=by omega
 have hnb2:¬w.heap.size+1=b:=by omega
 have hp1:p1.length≤s.size:=by omega
 have Hsz1:=xhd hsz1;clear hg1 hal hb1 hb2 hR1 hsz1;go_wp2_with fail
 have hlt:p1.length<s.size:=by have:=Hsz1.out;simp at this;omega
 obtain⟨hk,hget⟩:=HR1.out.head;have hle:¬s.size≤p1.length:=by omega
 have HR2:=xhd (HR1.out.set3 (deep+1));have HG2:=xhd (gr_set HG1.out 3 (.int .i64 (deep+1)));have hlt2:w.heap.size+1<(w1.setCell ⟨b,3,none⟩ (.int .i64 (deep+1))).heap.size:=by simp;omega
 have HB3:=xhd ((Below.heap_setCell w1 ⟨b,3,none⟩ (.int .i64 (deep+1)) w.heap.size (by simp;omega)).trans HB1.out);have HB4:=xhd ((Below.heap_setCell w1 ⟨b,3,none⟩ (.int .i64 (deep+1)) (w.heap.size+1) (by simp;omega)).trans HB2.out);obtain⟨w2,hw2⟩:∃w2,w2=w1.setCell ⟨b,3,none⟩ (.int .i64 (deep+1)):=⟨_,rfl⟩;rw[←hw2]at HR2 HG2 HB3 HB4 hlt2⊢;clear hw2 HR1 HG1 HB1 HB2 c0 c1 c2 c3 c4 c5 cf d0 hlt1;obtain⟨c0,c1,c2,c3,c4,c5,cf⟩:=HR2.out.cells;have d0:w2.cell? ⟨w.heap.size,0,none⟩=some (.pointer (some ⟨b,0,none⟩)):=by simp[World.cell?,HB3.out]
 go_quiet ((go_at_call 52;with_reducible first|exact qad _|exact qbd _));go_wp2_with fail
 go_quiet ((go_at_call 52;with_reducible first|exact qad _|exact qbd _));go_wp2_with fail
 refine(is_any _ b s p1 (c::la) 0 (deep+1) oa ends (by exact HR2.out.drewN _) (by omega) ⟨#[60,60]⟩ (by decide)).mono ?_;rintro e w2'⟨rfl,n2,hw2'⟩;have hpre:(⟨#[60,60]⟩:ByteArray).data.toList.isPrefixOf (c::la)=is2 (c::la) 60:=pre2 60 (c::la);rw[hpre,hd];clear hpre;subst w2';go_wp2_with fail
 go_quiet ((go_at_call 52;with_reducible first|exact qad _|exact qbd _));go_wp2_with fail
 go_quiet ((go_at_call 52;with_reducible first|exact qad _|exact qbd _));go_wp2_with fail
 refine(name_any _ b s p1 la c 0 (deep+1) oa ends (by exact HR2.out.drewN _) (by omega)).mono ?_;intro e w3 hP3;obtain⟨hn,hne⟩:∃hn,hn=nameB (wordT la) []:=⟨_,rfl⟩;rw[←hne]at hP3;have Hne:=xhd hne;clear hne
 obtain⟨rfl,⟨p3,hR3⟩,hg3⟩:=hP3;have hz3:=keep hg3 HB4.out (by simp;omega);have hx3:=keep hg3 HB3.out (by simp;omega);have HG3:=xhd (gr_same HG2.out (show w2.grownBy w3 (some b) from⟨hg3.os,hg3.tape,hg3.output,hg3.size,hg3.block⟩));have hlt3:w.heap.size+1<w3.heap.size:=(xgl hz3);obtain⟨z0,z1,z2,z3,z4,z5,z6,zf⟩:=zb_cells hz3;obtain⟨HZ3,HX3,HR3⟩:=xh3 hz3 hx3 hR3;clear hR3
 clear hz3 hx3 hg3 c0 c1 c2 c3 c4 c5 cf d0 HG2 HR2 HB3 HB4;go_wp2_with fail
 refine val_door HX3.out HZ3.out HR3.out HG3.out hbB hd0 (by omega) rfl ?_;intro w' g1 g2 g3 g4;rw[←Hne.out]
 cases hn with
 | none=>exact⟨_,rfl,⟨_,_,_,_,_,_,_,_,_,_,_,rfl⟩,⟨p3,_,_,_,ends,failB_ne _ _ (by decide),g1⟩,g2⟩
 | some k=>exact⟨nilS,nilS,fun _=>False,rfl,IsV.plain (by trivial),fun k hk=>hk.elim,⟨p3,g1⟩,g2⟩
theorem val_deep (w:World)(b:Nat)(s:ByteArray)(p l:By)(deep:Int)(hd1:50≤deep)(hd2:deep≤50)(odd ends:Bool)(hR:RdAt w b s p l 0 deep odd ends)(hs:s.size≤1000000000) :
  Calls Tryz.prog 28 #[.pointer (some ⟨b,0,none⟩)] w fun e w'=>VPost w w' b s deep ends e none:=by
 obtain⟨la,oa,hP⟩:∃la oa,passM false l odd=(la,oa):=⟨_,_,rfl⟩;have hbB:=hR.lt;have HR:=xhd hR;clear hR
 have hal:=alloc2 w w.heap.size rfl (.cells #[.pointer (some ⟨b,0,none⟩)] 55 (0,0)) (.cells #[.int .i64 0,.int .i64 0,.int .i64 0,.float .f64 0,.string ⟨#[]⟩,.slice none 0 0,.slice none 0 0] 30 (0,0));have hmf:∀(fn:Fn) (first cap:Array Value) (w:World),(Instr.makeFunc fn first cap).run Tryz.prog w=.ok (.func fn first cap) w:=fun _ _ _ _=>rfl
 go_enter_defers Tryz.func28,Tryz.ntmps28
 go_wp2_with fail
 refine(pass_any _ b s p l 0 deep odd ends (by exact(HR.out.alloc _).alloc _) (by omega)).mono ?_;rintro e w1⟨rfl,⟨p1,hR1⟩,hg1⟩;have hb1:=keep hg1 hal.1 (by simp;omega);have hb2:=keep hg1 hal.2 (by simp;omega);have hlt1:w.heap.size+1<w1.heap.size:=(xgl hb2);have HG1:=xhd (gr_same (gr_alloc (gr_alloc (xgr w (some b)) _) _) hg1);obtain⟨HB1,HB2⟩:=xh2 hb1 hb2;have d0:w1.cell? ⟨w.heap.size,0,none⟩=some (.pointer (some ⟨b,0,none⟩)):=by simp[World.cell?,hb1]
 rw[hP]at hR1;simp only at hR1;obtain⟨c0,c1,c2,c3,c4,c5,cf⟩:=hR1.cells;have hsz1:=hR1.size;have HR1:=xhd hR1;have hnb1:¬w.heap.size=b:=by omega
 have hnb2:¬w.heap.size+1=b:=by omega
 have hp1:p1.length≤s.size:=by omega
 have Hsz1:=xhd hsz1;clear hg1 hal hb1 hb2 hR1 hsz1;go_wp2_with fail
 have HR2:=xhd (HR1.out.set3 (deep+1));have HG2:=xhd (gr_set HG1.out 3 (.int .i64 (deep+1)));have hlt2:w.heap.size+1<(w1.setCell ⟨b,3,none⟩ (.int .i64 (deep+1))).heap.size:=by simp;omega
 have HB3:=xhd ((Below.heap_setCell w1 ⟨b,3,none⟩ (.int .i64 (deep+1)) w.heap.size (by simp;omega)).trans HB1.out);have HB4:=xhd ((Below.heap_setCell w1 ⟨b,3,none⟩ (.int .i64 (deep+1)) (w.heap.size+1) (by simp;omega)).trans HB2.out);obtain⟨w2,hw2⟩:∃w2,w2=w1.setCell ⟨b,3,none⟩ (.int .i64 (deep+1)):=⟨_,rfl⟩;rw[←hw2]at HR2 HG2 HB3 HB4 hlt2⊢;clear hw2 HR1 HG1 HB1 HB2 c0 c1 c2 c3 c4 c5 cf d0 hlt1;obtain⟨c0,c1,c2,c3,c4,c5,cf⟩:=HR2.out.cells;have d0:w2.cell? ⟨w.heap.size,0,none⟩=some (.pointer (some ⟨b,0,none⟩)):=by simp[World.cell?,HB3.out]
 refine(fail_any _ b s p1 la 0 (deep+1) oa ends (by exact HR2.out) 2).mono ?_;rintro e w3⟨rfl,hR3,hg3⟩;unfold zeroV;have hz3:=keep hg3 HB4.out (by simp;omega);have hx3:=keep hg3 HB3.out (by simp;omega);have HG3:=xhd (gr_same HG2.out (show w2.grownBy w3 (some b) from⟨hg3.os,hg3.tape,hg3.output,hg3.size,hg3.block⟩));have hlt3:w.heap.size+1<w3.heap.size:=(xgl hz3);obtain⟨z0,z1,z2,z3,z4,z5,z6,zf⟩:=zb_cells hz3;obtain⟨HZ3,HX3,HR3⟩:=xh3 hz3 hx3 hR3;clear hR3
 clear hz3 hx3 hg3 c0 c1 c2 c3 c4 c5 cf d0 HG2 HR2 HB3 HB4;go_wp2_with fail
 refine val_door HX3.out HZ3.out HR3.out HG3.out hbB (by omega) (by omega) rfl ?_;intro w' g1 g2 g3 g4;exact⟨_,rfl,⟨_,_,_,_,_,_,_,_,_,_,_,rfl⟩,⟨p1,_,oa,failB 0 2,ends,failB_ne _ _ (by decide),g1⟩,g2⟩
theorem pdN_lead {N r:Nat}(hN:N≠0)(hr1:1≤r)(hr:r≤numD N):10^(r-1)≤pdN N r∧numD (pdN N r)=r:=by
 have hpd:=pdN_small (N:=N) (r:=r)
 have hle:10^(r-1)≤pdN N r:=by
  unfold pdN;rw[if_pos (by omega)];rw[Nat.le_div_iff_mul_le (Nat.pow_pos (by decide)),←Nat.pow_add];have:=numD_le N hN
  rwa [show r-1+(numD N-r)=numD N-1 by omega]
 refine⟨hle,?_⟩;have:=numD_eq (m:=r-1) hle (by rwa [show r-1+1=r by omega]);omega
def Nines (N r i:Nat):Prop:=i≤r∧pdN N r+1=(pdN N i+1)*10^(r-i)
theorem Nines.start (N r:Nat):Nines N r r:=⟨Nat.le_refl _,by simp⟩
theorem Nines.step {A:By}{N r i:Nat}(h:Nines N r (i+1))(hl:numD N≤A.length)(hd:isDs (A.take (numD N)))(hv:dv (A.take (numD N))=N)(hr:r≤numD N)(h9:¬(A.getD i 0).toNat<57):Nines N r i:=by
 obtain⟨h1,h2⟩:=h;obtain⟨e1,e2,e3⟩:=pdN_digit hl hd hv (r:=i) (by omega);refine⟨by omega,?_⟩;rw[h2,e1,show r-i=(r-(i+1))+1 by omega,Nat.pow_succ];have:10*pdN N i+((A.getD i 0).toNat-48)+1=(pdN N i+1)*10:=by omega
 rw[this,Nat.mul_assoc,Nat.mul_comm 10]
theorem Nines.up {w':World}{b:Nat}{A:By}{N r i:Nat}{dp:Int}{neg tr:Bool}(h:Nines N r (i+1))(hN:N≠0)(hl:numD N≤800)(hA:A.length=800)(hd:isDs (A.take (numD N)))(hv:dv (A.take (numD N))=N)(hr:r≤numD N)(h9:(A.getD i 0).toNat<57){c:UInt8}(hc:c.toNat=(A.getD i 0).toNat+1)
  (hD:DecAt w' b (A.set i c) (i+1) dp neg tr)(hlt:r<numD N)(hru:ruB N r false=true):DecN w' b (rdN N r) (rdP N r dp) neg tr:=by
 obtain⟨h1,h2⟩:=h;obtain⟨e1,e2,e3⟩:=pdN_digit (by omega) hd hv (r:=i) (by omega);have hle:=(pdN_lead hN (r:=i+1) (by omega) (by omega)).1;have hpr:=(pdN_lead hN (r:=r) (by omega) hr).2;have hsm:=pdN_small (N:=N) (r:=i);obtain⟨X,hX⟩:∃X,X=pdN N (i+1)+1:=⟨_,rfl⟩;rw[←hX]at h2;have hX10:X%10≠0:=by omega
 have hX0:X≠0:=by omega
 have hXlt:X<10^(i+1):=by rw[Nat.pow_succ];omega
 have hXn:numD X=i+1:=numD_eq (by rw[Nat.add_sub_cancel]at hle;omega) hXlt;obtain⟨s1,s2⟩:=strip_mul10 (r-(i+1)) X hX0;have hrd:rdN N r=X:=by unfold rdN;rw[if_pos hlt,hru,if_pos rfl,h2,s1,strip_stop hX10]
 have hrp:rdP N r dp=dp:=by unfold rdP;rw[if_pos hlt,hru,if_pos rfl,h2,s2,hXn,hpr];omega
 rw[hrd,hrp]
 have htk:(A.set i c).take (i+1)=A.take i++[c]:=by
  rw[List.take_add_one,List.take_set_of_le (Nat.le_refl i),List.getElem?_set_self (by omega)];rfl
 refine⟨by rw[hXn];omega,_,by rw[hXn];exact hD,?_,?_⟩
 ·rw[hXn,htk]
  refine isDs_snoc ?_ (by omega) (by omega);intro x hx;refine hd x ?_;have:A.take i=(A.take (numD N)).take i:=by rw[List.take_take,Nat.min_eq_left (by omega)]
  rw[this]at hx;exact List.mem_of_mem_take hx
 ·rw[hXn,htk,dv_snoc]
  have hpi:=pd_eq (A:=A) (N:=N) (r:=i) (by omega) hd hv;unfold pd at hpi;rw[if_pos (by omega)]at hpi;rw[hpi];omega
theorem Nines.all {w':World}{b:Nat}{A:By}{N r:Nat}{dp:Int}{neg tr:Bool}(h:Nines N r 0)(hN:N≠0)(hr1:1≤r)(hA:A.length=800)(hD:DecAt w' b (A.set 0 49) 1 (dp+1) neg tr)(hlt:r<numD N)(hru:ruB N r false=true):DecN w' b (rdN N r) (rdP N r dp) neg tr:=by
 obtain⟨h1,h2⟩:=h;rw[pdN_zero]at h2;have hpr:=(pdN_lead hN (r:=r) (by omega) (by omega)).2;obtain⟨s1,s2⟩:=strip_mul10 (r-0) (0+1) (by decide);have h11:strip (0+1)=1:=strip_stop (by decide);have hn1:numD (0+1)=1:=numD_eq (m:=0) (by decide) (by decide);have hrd:rdN N r=1:=by unfold rdN;rw[if_pos hlt,hru,if_pos rfl,h2,s1,h11]
 have hrp:rdP N r dp=dp+1:=by unfold rdP;rw[if_pos hlt,hru,if_pos rfl,h2,s2,hn1,hpr];omega
 rw[hrd,hrp];have h1n:numD 1=1:=hn1
 have htk:(A.set 0 49).take 1=[49]:=by
  cases A with
  | nil=>simp at hA
  | cons x xs=>rfl
 refine⟨by rw[h1n];omega,_,by rw[h1n];exact hD,?_,?_⟩
 ·rw[h1n,htk];intro x hx;simp at hx;subst hx;decide
 ·rw[h1n,htk];rfl
theorem cut_dec {w':World}{b:Nat}{A:By}{N r:Nat}{dp:Int}{neg tr:Bool}(hN:N≠0)(hr1:1≤r)(hA:A.length=800)(hl:numD N≤800)(hd:isDs (A.take (numD N)))(hv:dv (A.take (numD N))=N)(hlt:r<numD N)(hru:ruB N r false=false)
  (hD:DecAt w' b A (trimN A r) dp neg tr):DecN w' b (rdN N r) (rdP N r dp) neg tr:=by
 obtain⟨hle,hpr⟩:=pdN_lead hN (r:=r) hr1 (by omega);have hpi:=pd_eq (A:=A) (N:=N) (r:=r) (by omega) hd hv;unfold pd at hpi;rw[if_pos (by omega)]at hpi;have hp0:pdN N r≠0:=by have:=Nat.pow_pos (n:=r-1) (show 0<10 by decide);omega
 have hds:isDs (A.take r):=by
  intro x hx;refine hd x ?_;have:A.take r=(A.take (numD N)).take r:=by rw[List.take_take,Nat.min_eq_left (by omega)]
  rw[this]at hx;exact List.mem_of_mem_take hx
 obtain⟨t1,t2⟩:=trimN_dv r A (by omega) hds (by rw[hpi];exact hp0) (by rw[hpi];exact hpr);rw[hpi]at t1 t2;have hrd:rdN N r=strip (pdN N r):=by unfold rdN;rw[if_pos hlt,hru];rfl
 have hrp:rdP N r dp=dp:=by unfold rdP;rw[if_pos hlt,hru];simp
 rw[hrd,hrp];have:=trimN_le A r;refine⟨by rw[←t1];omega,A,by rw[←t1];exact hD,?_,by rw[←t1];exact t2⟩;rw[←t1];intro x hx;refine hds x ?_;have e:A.take (trimN A r)=(A.take r).take (trimN A r):=by rw[List.take_take,Nat.min_eq_left (by omega)]
 rw[e]at hx;exact List.mem_of_mem_take hx
structure DstAt (w0 w:World)(v0 v:Value)(B:Nat)(l:By):Prop where
 own:OwnB B w v l
 gr:w0.grownBy w v0.ownBlock
 blk:v.ownBlock=v0.ownBlock∨∃j,v.ownBlock=some j∧w0.heap.size≤j
 base:B≤w0.heap.size
theorem DstAt.start {w:World}{v:Value}{B:Nat}{l:By}(h:OwnB B w v l)(hB:B≤w.heap.size):DstAt w w v v B l:=⟨h,xgr _ _,.inl rfl,hB⟩
theorem DstAt.push {w0 w w':World}{v0 v v':Value}{B:Nat}{l l':By}{o:Obj}(h:DstAt w0 w v0 v B l)(h1:OwnB B w' v' l')(h2:(w.alloc o).grownBy w' v.ownBlock)(h3:v'.ownBlock=v.ownBlock∨v'.ownBlock=some (w.alloc o).heap.size):DstAt w0 w' v0 v' B l':=by
 have hs:=h.gr.size;refine⟨h1,(gr_alloc h.gr o).andThen h2 (fun j hj=>?_),?_,h.base⟩
 ·rcases h.blk with e|⟨k,e,hk⟩
  ·right;rw[←e];exact hj
  ·left;rw[e]at hj;injection hj with hj;omega
 ·rcases h3 with e|e
  ·rcases h.blk with e2|⟨k,e2,hk⟩
   ·exact .inl (e.trans e2)
   ·exact .inr ⟨k,e.trans e2,hk⟩
  ·exact .inr ⟨_,e,by simp;omega⟩
theorem DstAt.cell {w0 w:World}{v0 v:Value}{B sb i:Nat}{l:By}(h:DstAt w0 w v0 v B l)(hsb:sb<w0.heap.size)(hne:v0.ownBlock≠some sb):w.cell? ⟨sb,i,none⟩=w0.cell? ⟨sb,i,none⟩ :=
 World.cell?_of_block (h.gr.block sb hsb (fun e=>hne e.symm))
theorem wpList_pushD {w:World}{ops:Array Oper}{rest:List Oper}{o:Oper}{a:Act}{Q:Exit→Act→World→Prop}(hgd:o.guard=Option.none)(s x:Operand)
  (ho:o.op=.call { callee:=.builtin .append,args:=#[s,x],argTypes:=#[84,84] })(B:Nat)(v:Value)(l:By)(c:UInt8)(n:Int)(hs:a.eval s=v)(hown:OwnB B w v l)
  (ad:Addr)(hx:a.eval x=.slice (some ad) 1 1)(hcell:w.cell? ad=some (.int .u8 n))(hn:n=(c.toNat:Int))(hl:l.length+1≤140737488355328)(hB:B≤w.heap.size)
  (h:∀v' w',OwnB B w' v' (l++[c])→w.grownBy w' v.ownBlock→(v'.ownBlock=v.ownBlock∨v'.ownBlock=some w.heap.size)→wpList Tryz.prog ops Q rest (a.put o.dst v') w'):wpList Tryz.prog ops Q (o::rest) a w:=by
 obtain⟨i,hi,hz0,hz1,hz2⟩:=info_parts Tryz.info5;subst hn;refine wpList_append_own_at w hgd s x 84 ho B 5 i (.int .u8 0) 1 1 Tryz.underlying84 hi hz0 hz1 hz2 rfl (by decide) v l.length _ hs hown ad 1 1 [.int .u8 (c.toNat:Int)] hx rfl ?_ ?_ (by unfold maxLen;omega) (by omega) hB ?_
 ·intro j u hj
  match j,hj with
  | 0,hj=>simp at hj;subst hj;rw[show ad.add 0=ad from by simp[Addr.add]];exact hcell
  | j+1,hj=>simp at hj
 ·intro u hu;simp at hu;subst hu;rfl
 ·intro v' w' h1 h2 _ h4
  exact h v' w' (by unfold OwnB;simpa using h1) h2 h4
end Go.Proofs.YtfkecmlmnhbmoaaGreatDoor
