/- Parts G29 G30 J8 J9 D4. -/
import Derived.Test.YtfkecmlmnhbmoaaGreatDoorW29
set_option linter.unusedVariables false
set_option linter.unusedSimpArgs false
set_option maxRecDepth 100000
set_option maxHeartbeats 40000000
namespace Go.Proofs.YtfkecmlmnhbmoaaGreatDoor
open Go Go.RowKit
theorem us2_ex (x hi lo s:Nat)(hx:x<18446744073709551616)(hh:hi<18446744073709551616)(hl:lo<18446744073709551616)(hs:s<64) :
  ∃u:Int,(0≤u∧u≤18446744073709551615)∧∀(w:World) (pb:Nat),w.cell? ⟨pb,0,none⟩=some (.int .u64 hi)→w.cell? ⟨pb,1,none⟩=some (.int .u64 lo)→w.cell? ⟨pb,2,none⟩=some (.int .i64 s) →
  Calls Tryz.prog 162 #[.int .u64 x,.pointer (some ⟨pb,0,none⟩)] w fun e w'=>e=.returned (.int .u64 u)∧∃n,w'=w.drewN n:=by
 have hbs:bits BinOp.and IntKind.i64 (s:Int) 63=(s:Int):=by
  have key:∀t:Nat,t<64→bits BinOp.and IntKind.i64 (t:Int) 63=(t:Int):=by decide
  exact key s hs
 obtain⟨H,hH⟩:∃H,H=x*hi/18446744073709551616:=⟨_,rfl⟩;obtain⟨M,hM⟩:∃M,M=x*hi%18446744073709551616:=⟨_,rfl⟩;obtain⟨M2,hM2⟩:∃M2,M2=x*lo/18446744073709551616:=⟨_,rfl⟩;have hHb:H<18446744073709551616:=by rw[hH];exact Nat.div_lt_of_lt_mul (Nat.mul_lt_mul'' hx hh)
 have hMb:M<18446744073709551616:=by rw[hM];exact Nat.mod_lt _ (by decide)
 have hM2b:M2<18446744073709551616:=by rw[hM2];exact Nat.div_lt_of_lt_mul (Nat.mul_lt_mul'' hx hl)
 obtain⟨HH,HM,HM2⟩:=xh3 hH hM hM2;clear hH hM hM2
 rcases xbt (IntKind.u64.wrap ((H:Int)/2^s*2^s) != (H:Int)) with hc1|hc1
 ·apply Exists.intro
  refine⟨?_,fun w pb c0 c1 c2=>?_⟩
  rotate_left
  go_enter Tryz.func162,Tryz.ntmps162;go_wp2_with fail
  refine(Tryz.bits_Mul64 x hi hx hh _).mono ?_;rintro e w1⟨rfl,hw⟩;subst w1;rw[←HH.out,←HM.out];go_wp2_with fail
  go_ret;exact⟨rfl,0,rfl⟩;exact or_range _ _
 ·by_cases hlt:M<M2
  ·rcases xbt (decide (1<IntKind.u64.wrap ((M:Int)-(M2:Int)))) with hd|hd
   all_goals
    apply Exists.intro;refine⟨?_,fun w pb c0 c1 c2=>?_⟩
    rotate_left
    go_enter Tryz.func162,Tryz.ntmps162;go_wp2_with fail
    refine(Tryz.bits_Mul64 x hi hx hh _).mono ?_;rintro e w1⟨rfl,hw⟩;subst w1;rw[←HH.out,←HM.out];go_wp2_with fail
    refine(Tryz.bits_Mul64 x lo hx hl _).mono ?_;rintro e w1⟨rfl,hw⟩;subst w1;rw[←HM2.out];go_wp2_with fail
    first
     | refine(b2_t _).mono ?_
     | refine(b2_f _).mono ?_
    rintro e w1⟨rfl,hw⟩;subst w1;go_wp2_with fail
    go_quiet ((go_at_call 151;with_reducible first|exact Calls.quiet_of_same (b2_t _)|exact Calls.quiet_of_same (b2_f _)))
    go_wp2_with fail
    go_ret;exact⟨rfl,_,rfl⟩;exact or_range _ _
  ·rcases xbt (decide (1<(M:Int)-(M2:Int))) with hd|hd
   all_goals
    apply Exists.intro;refine⟨?_,fun w pb c0 c1 c2=>?_⟩
    rotate_left
    go_enter Tryz.func162,Tryz.ntmps162;go_wp2_with fail
    refine(Tryz.bits_Mul64 x hi hx hh _).mono ?_;rintro e w1⟨rfl,hw⟩;subst w1;rw[←HH.out,←HM.out];go_wp2_with fail
    refine(Tryz.bits_Mul64 x lo hx hl _).mono ?_;rintro e w1⟨rfl,hw⟩;subst w1;rw[←HM2.out];go_wp2_with fail
    first
     | refine(b2_t _).mono ?_
     | refine(b2_f _).mono ?_
    rintro e w1⟨rfl,hw⟩;subst w1;go_wp2_with fail
    go_quiet ((go_at_call 151;with_reducible first|exact Calls.quiet_of_same (b2_t _)|exact Calls.quiet_of_same (b2_f _)))
    go_wp2_with fail
    go_ret;exact⟨rfl,_,rfl⟩;exact or_range _ _
theorem g12:Tryz.prog.globalNamed "internal/strconv.uint64pow10" = some 12:=by kernel_rfl
def FwC (W0:World)(m:Nat)(e n:Int)(D P:Int):Prop:=∀w:World,Env W0 w→Calls Tryz.prog 121 #[.int .u64 m,.int .i64 e,.int .i64 n,.int .i64 12,.int .u8 102] w fun e w'=>e=.returned (.tuple #[.int .u64 D,.int .i64 (-P)])∧w.grownBy w' none
theorem fw_ex (W0:World)(hF:FInit2 W0)(hT:Lib.TabIs Tryz.prog W0 "internal/strconv.uint64pow10" .u64 Lib.pow10Tab)(m:Nat)(hm:m<18446744073709551616)(ex p0:Int)(s nn:Nat)(hn0:1≤nn)(hn18:nn≤18)(he1:-1000≤ex)(he2:ex≤1000)
  (hp0:(nn:Int)-1-(ex+63)*78913/262144=p0)(hp1:11≤p0)(hp2:p0≤13)(hs:-(ex+p0*108853/32768+3)=s)(hs64:s<64) :
  ∃D P:Int,0≤D∧D≤18446744073709551615∧10≤P∧P≤12∧FwC W0 m ex nn D P:=by
 obtain⟨i,hi⟩:∃i:Nat,p0+348=i:=⟨(p0+348).toNat,by omega⟩;obtain⟨hi9,lo9,hh,hl,t0,t1⟩:=hF.p10 i (by omega)
 have hc12:∃v:Int,0≤v∧v≤18446744073709551615∧W0.cell? ⟨12,nn,none⟩=some (.int .u64 v):=by
  have key:∀j:Nat,j<20→0≤Lib.pow10Tab.getD j 0∧Lib.pow10Tab.getD j 0≤18446744073709551615:=by decide
  exact⟨_,(key nn (by omega)).1,(key nn (by omega)).2,hT.cell g12 nn (by rw[Lib.pow10Tab_length];omega)⟩
 obtain⟨pv,hpv0,hpv1,hpc⟩:=hc12;obtain⟨u,⟨hu0,hu1⟩,hus⟩:=us2_ex m hi9 lo9 s hm hh hl hs64;obtain⟨um,⟨hm0,hm1⟩,hum⟩:=umin_ex pv hpv0 hpv1;obtain⟨lp,hlp⟩:∃lp,lp=p0*108853/32768:=⟨_,rfl⟩;rw[←hlp]at hs;have hlp3:-400≤lp:=by omega
 have hlp4:lp≤100:=by omega
 have h21:21<W0.heap.size:=World.block_lt_of_cell? _ _ t0;obtain⟨Hlp,Hs,H21,HT0,HT1,Hus,Hum,Hpc⟩:=xh8 hlp hs h21 t0 t1 hus hum hpc;clear hlp hs h21 t0 t1 hus hum hpc hF hT;rcases xbt (decide (um≤u)) with hge|hge
 ·obtain⟨u1,⟨ha0,ha1⟩,hdv⟩:=div_ex u hu0 hu1
  have Hdv:=xhd hdv;clear hdv;obtain⟨v,⟨hv0,hv1⟩,hrn⟩:=round_ex u1 ha0 ha1;have Hrn:=xhd hrn;clear hrn;refine⟨v,p0-1,hv0,hv1,by omega,by omega,fun w hE=>?_⟩;have hwz:=hE.1;have hnn1:(nn:Int)<20:=by omega
  go_enter Tryz.func121,Tryz.ntmps121;go_wp2_with fail
  refine(l10_any _ (ex+63) (by omega) (by omega)).mono ?_;rintro e w1⟨rfl,hw⟩;subst w1;go_wp2_with fail
  refine(l2p_any _ p0 (by omega) (by omega)).mono ?_;rintro e w1⟨rfl,hw⟩;subst w1;rw[←Hlp.out];go_wp2_with fail
  have hnew:=heap_alloc_new w (.cells #[.int .u64 0,.int .u64 0,.int .i64 0] 240 (0,0));refine(pre_any _ w.heap.size ex p0 lp i hi9 lo9 240 _ _ _ hi (by omega) (by have:=H21.out;omega) (by rw[World.cell?_alloc_past _ _ _ (by have:=H21.out;simp;omega)];exact hE.cell HT0.out) (by rw[World.cell?_alloc_past _ _ _ (by have:=H21.out;simp;omega)];exact hE.cell HT1.out) (by exact hnew) (by omega) (by omega) (by omega) (by omega)).mono ?_;rintro e w1⟨rfl,hb1,hg1⟩;rw[Hs.out]at hb1;have d0:w1.cell? ⟨w.heap.size,0,none⟩=some (.int .u64 hi9):=by simp[World.cell?,hb1]
  have d1:w1.cell? ⟨w.heap.size,1,none⟩=some (.int .u64 lo9):=by simp[World.cell?,hb1]
  have d2:w1.cell? ⟨w.heap.size,2,none⟩=some (.int .i64 s):=by simp[World.cell?,hb1]
  have HG1:=xhd (show w.grownBy w1 none from gr_noneThen (gr_alloc (xgr w none) _) hg1 (fun j hj=>by injection hj with hj;omega));clear hg1 hb1 hnew;go_wp2_with fail
  refine(Hus.out w1 w.heap.size d0 d1 d2).mono ?_;rintro e w2⟨rfl,k1,rfl⟩;have hpw:(w1.drewN k1).cell? ⟨12,nn,none⟩=some (.int .u64 pv):=(hE.grown0 HG1.out).cell Hpc.out;replace HG1:=xhd (show w.grownBy (w1.drewN k1) none from gr_drewN HG1.out _);generalize w1.drewN k1=w2 at *;clear d0 d1 d2;go_wp2_with fail
  refine(Hum.out _).mono ?_;rintro e w3⟨rfl,hw⟩;subst w3;go_wp2_with fail
  refine(Hdv.out _).mono ?_;rintro e w3⟨rfl,k2,rfl⟩;replace HG1:=xhd (show w.grownBy (w2.drewN k2) none from gr_drewN HG1.out _);generalize w2.drewN k2=w3 at *;go_wp2_with fail
  go_loopg [11,13] 0 (fun g t11 t13 wr=>t11=.int .i64 (p0-1)∧t13=.int .u64 u1∧w3=wr)
  case atStart=>exact⟨rfl,rfl,rfl⟩
  case round =>
   obtain⟨rfl,rfl,rfl⟩:=hrel;have hlt:¬(12<p0-1):=by omega
   go_wp2_with fail
   refine(Hrn.out _).mono ?_;rintro e w4⟨rfl,hw⟩;subst w4;go_wp2_with fail
   go_ret2;exact⟨rfl,HG1.out⟩
 ·by_cases h13:p0=13
  ·have h13a:13≤p0:=by omega
   clear h13;obtain⟨u2,⟨ha0,ha1⟩,hdv⟩:=div_ex u hu0 hu1;have Hdv:=xhd hdv;clear hdv;obtain⟨v,⟨hv0,hv1⟩,hrn⟩:=round_ex u2 ha0 ha1;have Hrn:=xhd hrn;clear hrn;refine⟨v,12,hv0,hv1,by omega,by omega,fun w hE=>?_⟩;have hwz:=hE.1;have hnn1:(nn:Int)<20:=by omega
   go_enter Tryz.func121,Tryz.ntmps121;go_wp2_with fail
   refine(l10_any _ (ex+63) (by omega) (by omega)).mono ?_;rintro e w1⟨rfl,hw⟩;subst w1;go_wp2_with fail
   refine(l2p_any _ p0 (by omega) (by omega)).mono ?_;rintro e w1⟨rfl,hw⟩;subst w1;rw[←Hlp.out];go_wp2_with fail
   have hnew:=heap_alloc_new w (.cells #[.int .u64 0,.int .u64 0,.int .i64 0] 240 (0,0));refine(pre_any _ w.heap.size ex p0 lp i hi9 lo9 240 _ _ _ hi (by omega) (by have:=H21.out;omega) (by rw[World.cell?_alloc_past _ _ _ (by have:=H21.out;simp;omega)];exact hE.cell HT0.out) (by rw[World.cell?_alloc_past _ _ _ (by have:=H21.out;simp;omega)];exact hE.cell HT1.out) (by exact hnew) (by omega) (by omega) (by omega) (by omega)).mono ?_;rintro e w1⟨rfl,hb1,hg1⟩;rw[Hs.out]at hb1;have d0:w1.cell? ⟨w.heap.size,0,none⟩=some (.int .u64 hi9):=by simp[World.cell?,hb1]
   have d1:w1.cell? ⟨w.heap.size,1,none⟩=some (.int .u64 lo9):=by simp[World.cell?,hb1]
   have d2:w1.cell? ⟨w.heap.size,2,none⟩=some (.int .i64 s):=by simp[World.cell?,hb1]
   have HG1:=xhd (show w.grownBy w1 none from gr_noneThen (gr_alloc (xgr w none) _) hg1 (fun j hj=>by injection hj with hj;omega));clear hg1 hb1 hnew;go_wp2_with fail
   refine(Hus.out w1 w.heap.size d0 d1 d2).mono ?_;rintro e w2⟨rfl,k1,rfl⟩;have hpw:(w1.drewN k1).cell? ⟨12,nn,none⟩=some (.int .u64 pv):=(hE.grown0 HG1.out).cell Hpc.out;replace HG1:=xhd (show w.grownBy (w1.drewN k1) none from gr_drewN HG1.out _);generalize w1.drewN k1=w2 at *;clear d0 d1 d2;go_wp2_with fail
   refine(Hum.out _).mono ?_;rintro e w3⟨rfl,hw⟩;subst w3;go_wp2_with fail
   go_loopg [11,13] 1 (fun g t11 t13 wr=>∃(p:Int) (z:Int),t11=.int .i64 p∧t13=.int .u64 z∧w.grownBy wr none∧((p=p0∧z=u∧g=1)∨(p=12∧z=u2∧g=0)))
   case atStart=>exact⟨_,_,rfl,rfl,HG1.out,.inl ⟨rfl,rfl,rfl⟩⟩
   case round =>
    obtain⟨p,z,rfl,rfl,hgw,h⟩:=hrel;have Hgw:=xhd hgw;clear hgw HG1;rcases h with⟨hp,rfl,hg⟩|⟨rfl,rfl,hg⟩
    ·have Hg:=xhd hg
     have hgt:12<p:=by omega
     have Hp:=xhd hp;have hple:p≤13:=by omega
     clear hp hg;go_wp2_with fail
     refine(Hdv.out _).mono ?_;rintro e w3⟨rfl,k2,rfl⟩;go_wp2_with fail
     go_roundg 0
     case measure=>rw[Hg.out];omega
     case rel=>exact⟨_,_,rfl,rfl,gr_drewN Hgw.out _,.inr ⟨by have:=Hp.out;omega,rfl,rfl⟩⟩
    ·go_wp2_with fail
     refine(Hrn.out _).mono ?_;rintro e w4⟨rfl,hw⟩;subst w4;go_wp2_with fail
     go_ret2;exact⟨rfl,Hgw.out⟩
  ·have h13a:p0≤12:=by omega
   clear h13;obtain⟨v,⟨hv0,hv1⟩,hrn⟩:=round_ex u hu0 hu1;have Hrn:=xhd hrn;clear hrn;refine⟨v,p0,hv0,hv1,by omega,by omega,fun w hE=>?_⟩;have hwz:=hE.1;have hnn1:(nn:Int)<20:=by omega
   go_enter Tryz.func121,Tryz.ntmps121;go_wp2_with fail
   refine(l10_any _ (ex+63) (by omega) (by omega)).mono ?_;rintro e w1⟨rfl,hw⟩;subst w1;go_wp2_with fail
   refine(l2p_any _ p0 (by omega) (by omega)).mono ?_;rintro e w1⟨rfl,hw⟩;subst w1;rw[←Hlp.out];go_wp2_with fail
   have hnew:=heap_alloc_new w (.cells #[.int .u64 0,.int .u64 0,.int .i64 0] 240 (0,0));refine(pre_any _ w.heap.size ex p0 lp i hi9 lo9 240 _ _ _ hi (by omega) (by have:=H21.out;omega) (by rw[World.cell?_alloc_past _ _ _ (by have:=H21.out;simp;omega)];exact hE.cell HT0.out) (by rw[World.cell?_alloc_past _ _ _ (by have:=H21.out;simp;omega)];exact hE.cell HT1.out) (by exact hnew) (by omega) (by omega) (by omega) (by omega)).mono ?_;rintro e w1⟨rfl,hb1,hg1⟩;rw[Hs.out]at hb1;have d0:w1.cell? ⟨w.heap.size,0,none⟩=some (.int .u64 hi9):=by simp[World.cell?,hb1]
   have d1:w1.cell? ⟨w.heap.size,1,none⟩=some (.int .u64 lo9):=by simp[World.cell?,hb1]
   have d2:w1.cell? ⟨w.heap.size,2,none⟩=some (.int .i64 s):=by simp[World.cell?,hb1]
   have HG1:=xhd (show w.grownBy w1 none from gr_noneThen (gr_alloc (xgr w none) _) hg1 (fun j hj=>by injection hj with hj;omega));clear hg1 hb1 hnew;go_wp2_with fail
   refine(Hus.out w1 w.heap.size d0 d1 d2).mono ?_;rintro e w2⟨rfl,k1,rfl⟩;have hpw:(w1.drewN k1).cell? ⟨12,nn,none⟩=some (.int .u64 pv):=(hE.grown0 HG1.out).cell Hpc.out;replace HG1:=xhd (show w.grownBy (w1.drewN k1) none from gr_drewN HG1.out _);generalize w1.drewN k1=w2 at *;clear d0 d1 d2;go_wp2_with fail
   refine(Hum.out _).mono ?_;rintro e w3⟨rfl,hw⟩;subst w3;go_wp2_with fail
   go_loopg [11,13] 0 (fun g t11 t13 wr=>t11=.int .i64 p0∧t13=.int .u64 u∧w2=wr)
   case atStart=>exact⟨rfl,rfl,rfl⟩
   case round =>
    obtain⟨rfl,rfl,rfl⟩:=hrel;have hlt:¬(12<p0):=by omega
    go_wp2_with fail
    refine(Hrn.out _).mono ?_;rintro e w4⟨rfl,hw⟩;subst w4;go_wp2_with fail
    go_ret2;exact⟨rfl,HG1.out⟩
theorem cmp_ge {a b:Int}(h:b≤a):compare a b=Ordering.gt∨compare a b=Ordering.eq:=by
 show compareOfLessAndEq a b=_∨compareOfLessAndEq a b=_
 unfold compareOfLessAndEq;rw[if_neg (by omega)]
 by_cases e:a=b
 ·rw[if_pos e];exact .inr rfl
 ·rw[if_neg e];exact .inl rfl
theorem cmp_le {a b:Int}(h:a≤b):compare a b=Ordering.lt∨compare a b=Ordering.eq:=by
 show compareOfLessAndEq a b=_∨compareOfLessAndEq a b=_
 unfold compareOfLessAndEq
 by_cases e:a<b
 ·rw[if_pos e];exact .inl rfl
 ·rw[if_neg e,if_pos (by omega)];exact .inr rfl
theorem read_big {x:Nat}(h1:4816244402031689728≤x%9223372036854775808)(h2:x%9223372036854775808<9218868437227405312) :
  FloatKind.f64.format.read x=.number (x/9223372036854775808%2==1) (4503599627370496+x%9223372036854775808%4503599627370496) (-1074+((x%9223372036854775808/4503599627370496-1:Nat):Int)):=by
 have e1:FloatKind.f64.format=Ieee.double:=rfl;have e2:Ieee.double.signWeight=9223372036854775808:=by decide
 have e3:Ieee.double.infRung=9218868437227405312:=by decide
 have e4:Ieee.double.binade=4503599627370496:=by decide
 have e5:Ieee.double.leastPlace=-1074:=by decide
 rw[e1];unfold Ieee.Format.read;simp only[e2,e3,e4,e5];rw[if_neg (by omega),if_pos h2]
theorem rung_shift {R:Nat}(h1:4816244402031689728≤R)(h2:R<9218868437227405312)(i j:Int)(hi:i=-1074+((R/4503599627370496-1:Nat):Int))(hj:j=-1074+1068):min i j=j∧(j-j).toNat=0∧6400000000000000≤(4503599627370496+R%4503599627370496) <<< (i-j).toNat:=by
 have hE:1069≤R/4503599627370496:=by omega
 refine⟨by omega,by omega,?_⟩;rw[Nat.shiftLeft_eq]
 by_cases he:R/4503599627370496=1069
 ·rw[show (i-j).toNat=0 by omega,Nat.pow_zero,Nat.mul_one];omega
 ·have h2:2^1≤2^(i-j).toNat:=Nat.pow_le_pow_right (by decide) (by omega)
  have:(4503599627370496+R%4503599627370496)*2^1≤(4503599627370496+R%4503599627370496)*2^(i-j).toNat:=Nat.mul_le_mul_left _ h2;omega
theorem read_c:FloatKind.f64.format.read 4816244402031689728=.number false 6400000000000000 (-1074+1068):=by decide
theorem read_nc:FloatKind.f64.format.read 14039616438886465536=.number true 6400000000000000 (-1074+1068):=by decide
theorem ord_pos {x:Nat}(hx:x<9223372036854775808)(h1:4816244402031689728≤x)(h2:x<9218868437227405312):FloatKind.f64.format.order x 4816244402031689728=some .gt∨FloatKind.f64.format.order x 4816244402031689728=some .eq:=by
 have hm:x%9223372036854775808=x:=Nat.mod_eq_of_lt hx;unfold Ieee.Format.order;rw[read_big (by omega) (by omega),read_c,hm];have hs:(x/9223372036854775808%2==1)=false:=by simp;omega
 rw[hs];obtain⟨q1,q2,q3⟩:=rung_shift h1 h2 _ _ rfl rfl;simp only[Ieee.Datum.order];rw[q1,q2];rcases cmp_ge (a:=Ieee.signed false (4503599627370496+x%4503599627370496) (-1074+((x/4503599627370496-1:Nat):Int)-(-1074+1068)).toNat) (b:=Ieee.signed false 6400000000000000 0) (show ((6400000000000000 <<< 0:Nat):Int)≤((_ <<< _:Nat):Int) from Int.ofNat_le.2 q3) with h|h
 ·rw[h];exact .inl rfl
 ·rw[h];exact .inr rfl
theorem ord_neg {x:Nat}(hx:9223372036854775808≤x)(hx2:x<18446744073709551616)(h1:4816244402031689728≤x%9223372036854775808)(h2:x%9223372036854775808<9218868437227405312):FloatKind.f64.format.order x 14039616438886465536=some .lt∨FloatKind.f64.format.order x 14039616438886465536=some .eq:=by
 unfold Ieee.Format.order;rw[read_big (by omega) (by omega),read_nc];have hs:(x/9223372036854775808%2==1)=true:=by simp;omega
 rw[hs];obtain⟨q1,q2,q3⟩:=rung_shift h1 h2 _ _ rfl rfl;simp only[Ieee.Datum.order];rw[q1,q2];rcases cmp_le (a:=Ieee.signed true (4503599627370496+x%9223372036854775808%4503599627370496) (-1074+((x%9223372036854775808/4503599627370496-1:Nat):Int)-(-1074+1068)).toNat) (b:=Ieee.signed true 6400000000000000 0) (show -((_ <<< _:Nat):Int)≤-((6400000000000000 <<< 0:Nat):Int) from Int.neg_le_neg (Int.ofNat_le.2 q3)) with h|h
 ·rw[h];exact .inl rfl
 ·rw[h];exact .inr rfl
theorem read_nan {r:Nat}(h:9218868437227405312<r%9223372036854775808):∃s p,FloatKind.f64.format.read r=.nan s p:=by
 have e1:FloatKind.f64.format=Ieee.double:=rfl;have e2:Ieee.double.signWeight=9223372036854775808:=by decide
 have e3:Ieee.double.infRung=9218868437227405312:=by decide
 have e4:Ieee.double.binade=4503599627370496:=by decide
 rw[e1];unfold Ieee.Format.read;simp only[e2,e3,e4];rw[if_neg (by omega),if_neg (by omega),if_neg (by omega)];exact⟨_,_,rfl⟩
theorem read_inf {r:Nat}(h:r%9223372036854775808=9218868437227405312):∃s,FloatKind.f64.format.read r=.infinity s:=by
 have e1:FloatKind.f64.format=Ieee.double:=rfl;have e2:Ieee.double.signWeight=9223372036854775808:=by decide
 have e3:Ieee.double.infRung=9218868437227405312:=by decide
 have e4:Ieee.double.binade=4503599627370496:=by decide
 rw[e1];unfold Ieee.Format.read;simp only[e2,e3,e4];rw[if_neg (by omega),if_neg (by omega),if_pos h];exact⟨_,rfl⟩
theorem cut_nan (t:Nat):9218868437227405312<(t%2*2^63+0x7ff0000000000000+1+t/2%(2^52-1))%9223372036854775808:=by
 have h1:t/2%(2^52-1)<2^52-1:=Nat.mod_lt _ (by decide);generalize t/2%(2^52-1)=q at *;have h2:t%2=0∨t%2=1:=by omega
 rcases h2 with h|h<;>rw[h]<;>omega
theorem run_self_sub (x:Nat)(w:World):∃r w',(binOp .sub 22 (.float .f64 x) (.float .f64 x)).run Tryz.prog w=.ok (.float .f64 r) w'∧(w'=w∨w'=w.drew) ∧
  ((x%9223372036854775808<9218868437227405312∧(FloatKind.f64.format.order r 0 != some .eq)=false)∨(¬x%9223372036854775808<9218868437227405312∧(FloatKind.f64.format.order r 0 != some .eq)=true)):=by
 by_cases hf:x%9223372036854775808<9218868437227405312
 ·obtain⟨s,m,j,hr⟩:=isNumF_of hf
  have hs:FloatKind.f64.format.sub x x=some 0:=by
   unfold Ieee.Format.sub;rw[hr];simp only[Ieee.Datum.opposite,Ieee.Datum.sum,Option.map_some]
   have ht:Ieee.signed s m (j-min j j).toNat+Ieee.signed (!s) m (j-min j j).toNat=0:=by
    unfold Ieee.signed;cases s<;>simp<;>omega
   rw[ht];simp only[if_true];have e:(s&&!s)=false:=by cases s<;>rfl
   rw[e];rfl
  exact⟨0,w,run_float_arith w .sub 22 .f64 x x 0 hs,.inl rfl,.inl ⟨hf,by decide⟩⟩
 ·have hs:FloatKind.f64.format.sub x x=none:=by
   unfold Ieee.Format.sub
   by_cases hi:x%9223372036854775808=9218868437227405312
   ·obtain⟨s,hr⟩:=read_inf hi
    rw[hr]
    cases s<;>rfl
   ·obtain⟨s,p,hr⟩:=read_nan (r:=x) (by omega)
    rw[hr];rfl
  refine⟨(Question.nanBits .f64 x x).cut (w.tape w.drawn (.nanBits .f64 x x)),w.drew,?_,.inr rfl,.inr ⟨hf,?_⟩⟩
  ·simp[binOp,Op.floatArith,hs,Question.forced]
  ·obtain⟨s,p,hr⟩:=read_nan (r:=(Question.nanBits .f64 x x).cut (w.tape w.drawn (.nanBits .f64 x x))) (by simp only[Question.cut];exact cut_nan _)
   unfold Ieee.Format.order;rw[hr];rfl
end Go.Proofs.YtfkecmlmnhbmoaaGreatDoor
