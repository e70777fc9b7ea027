/- FnParse: the texts F15 F16 F13 F14 F14b G13 G16 of the workbench, laid together. -/
import Derived.Test.YtfkecmlmnhbmoaaGreatDoorProg
import Derived.WalkKit
import Derived.WalkLawsBesides
import Derived.WalkSpells
import Derived.BigQuiet
import Derived.BigRegion
import Derived.Deep.QuietTactic
import Derived.Deep.RegionHeld3
import Derived.Deep.LoopGhost
import Derived.StillTailTactics
import Derived.Lib.Hide
import Derived.Laws.EntriesVeiled
import Derived.Laws.Externs
import Derived.Deep.Cut
import Derived.WalkMore
import Derived.IntWalk
import Derived.Test.YtfkecmlmnhbmoaaGreatDoorZ8
import Derived.Test.YtfkecmlmnhbmoaaGreatDoorZ11
import Derived.Test.YtfkecmlmnhbmoaaGreatDoorZ19
import Derived.Test.YtfkecmlmnhbmoaaGreatDoorZ28
import Derived.Test.YtfkecmlmnhbmoaaGreatDoorZ29
set_option linter.unusedVariables false
set_option linter.unusedSimpArgs false
namespace Go.Proofs.YtfkecmlmnhbmoaaGreatDoor
open Go Go.RowKit
theorem run_frombits (n:Int) (w:World):(callFunc 152 #[.int .u64 n]).run Tryz.prog w=.ok (.value (.float .f64 n.toNat)) w:=by
  rw [run_callFunc_extern Tryz.func152 (by kernel_rfl) (by kernel_rfl) (by kernel_rfl) (e:=Extern.MathFloatBits.float64frombits) (by kernel_rfl)]
  rfl
set_option maxRecDepth 100000 in
set_option maxHeartbeats 40000000 in
theorem pack_ex (m e:Int) (h0:0≤m) (h1:m≤18446744073709551615) (hm:m % 9223372036854775808≤9007199254740992) (h2:-1000≤e) (h3:e < 972):∃ x:Nat,nnF x∧∀ w:World,Calls Tryz.prog 202 #[.int .u64 m,.int .i64 e] w fun e w'=>e=.returned (.tuple #[.float .f64 x,.nilIface])∧w'=w:=by
  have hfb:=run_frombits
  rcases Bool.eq_false_or_eq_true (bits BinOp.and IntKind.u64 m 4503599627370496 == 0) with hb | hb
  all_goals
    have Hm:=Lib.hid hm
    clear hm
    apply Exists.intro
    refine ⟨?_,fun w=>?_⟩
    rotate_left
    go_enter Tryz.func202,Tryz.ntmps202
    go_wp2_with fail
    go_ret2
    exact ⟨rfl,rfl⟩
    first
      | exact pack_nn m e h0 h1 Hm.out h2 h3 hb
      | exact nnF_of (by have:=Hm.out;omega)
set_option maxRecDepth 100000 in
set_option maxHeartbeats 40000000 in
theorem b2_t (w:World):Calls Tryz.prog 151 #[.bool true] w fun e w'=>e=.returned (.int .u64 1)∧w'=w:=by
  go_enter Tryz.func151,Tryz.ntmps151
  go_wp2_with fail
  go_ret
  exact ⟨rfl,rfl⟩
set_option maxRecDepth 100000 in
set_option maxHeartbeats 40000000 in
theorem b2_f (w:World):Calls Tryz.prog 151 #[.bool false] w fun e w'=>e=.returned (.int .u64 0)∧w'=w:=by
  go_enter Tryz.func151,Tryz.ntmps151
  go_wp2_with fail
  go_ret
  exact ⟨rfl,rfl⟩
set_option maxRecDepth 100000 in
set_option maxHeartbeats 40000000 in
theorem us_ex (x hi lo:Nat) (hx:x < 18446744073709551616) (hh:hi < 18446744073709551616) (hl:lo < 18446744073709551616) :
    ∃ u:Int,(0≤u∧u≤72057594037927935)∧∀ (w:World) (pb:Nat),w.cell? ⟨pb,0,none⟩=some (.int .u64 hi)→w.cell? ⟨pb,1,none⟩=some (.int .u64 lo)→w.cell? ⟨pb,2,none⟩=some (.int .i64 8) →
    Calls Tryz.prog 162 #[.int .u64 x,.pointer (some ⟨pb,0,none⟩)] w fun e w'=>e=.returned (.int .u64 u)∧∃ n,w'=w.drewN n:=by
  have hb8:bits BinOp.and IntKind.i64 8 63=8:=by decide
  obtain ⟨H,hH⟩:∃ H,H=x * hi / 18446744073709551616:=⟨_,rfl⟩
  obtain ⟨M,hM⟩:∃ M,M=x * hi % 18446744073709551616:=⟨_,rfl⟩
  obtain ⟨M2,hM2⟩:∃ M2,M2=x * lo / 18446744073709551616:=⟨_,rfl⟩
  have hHb:H < 18446744073709551616:=by rw [hH];exact Nat.div_lt_of_lt_mul (Nat.mul_lt_mul'' hx hh)
  have hMb:M < 18446744073709551616:=by rw [hM];exact Nat.mod_lt _ (by decide)
  have hM2b:M2 < 18446744073709551616:=by rw [hM2];exact Nat.div_lt_of_lt_mul (Nat.mul_lt_mul'' hx hl)
  have HH:=Lib.hid hH;clear hH
  have HM:=Lib.hid hM;clear hM
  have HM2:=Lib.hid hM2;clear hM2
  rcases Bool.eq_false_or_eq_true ((H:Int) / 256 * 256 != (H:Int)) with hc1 | hc1
  · apply Exists.intro
    refine ⟨?_,fun w pb c0 c1 c2=>?_⟩
    rotate_left
    go_enter Tryz.func162,Tryz.ntmps162
    go_wp2_with fail
    refine (Tryz.bits_Mul64 x hi hx hh _).mono ?_
    rintro e w1 ⟨rfl,hw⟩
    subst w1
    rw [←HH.out,←HM.out]
    go_wp2_with fail
    go_ret
    exact ⟨rfl,0,rfl⟩
    refine or_lt56 ?_ ?_ ?_ ?_<;>first | decide | omega | (rw [IntKind.wrap_u64];omega)
  · by_cases hlt:M < M2
    · rcases Bool.eq_false_or_eq_true (decide (1 < IntKind.u64.wrap ((M:Int) - (M2:Int)))) with hd | hd
      all_goals
        apply Exists.intro
        refine ⟨?_,fun w pb c0 c1 c2=>?_⟩
        rotate_left
        go_enter Tryz.func162,Tryz.ntmps162
        go_wp2_with fail
        refine (Tryz.bits_Mul64 x hi hx hh _).mono ?_
        rintro e w1 ⟨rfl,hw⟩
        subst w1
        rw [←HH.out,←HM.out]
        go_wp2_with fail
        refine (Tryz.bits_Mul64 x lo hx hl _).mono ?_
        rintro e w1 ⟨rfl,hw⟩
        subst w1
        rw [←HM2.out]
        go_wp2_with fail
        first
          | refine (b2_t _).mono ?_
          | refine (b2_f _).mono ?_
        rintro e w1 ⟨rfl,hw⟩
        subst w1
        go_wp2_with fail
        go_quiet ((go_at_call 151;with_reducible first | exact Calls.quiet_of_same (b2_t _) | exact Calls.quiet_of_same (b2_f _)))
        go_wp2_with fail
        go_ret
        exact ⟨rfl,_,rfl⟩
        refine or_lt56 ?_ ?_ ?_ ?_<;>first | decide | omega | (rw [IntKind.wrap_u64];omega)
    · rcases Bool.eq_false_or_eq_true (decide (1 < (M:Int) - (M2:Int))) with hd | hd
      all_goals
        apply Exists.intro
        refine ⟨?_,fun w pb c0 c1 c2=>?_⟩
        rotate_left
        go_enter Tryz.func162,Tryz.ntmps162
        go_wp2_with fail
        refine (Tryz.bits_Mul64 x hi hx hh _).mono ?_
        rintro e w1 ⟨rfl,hw⟩
        subst w1
        rw [←HH.out,←HM.out]
        go_wp2_with fail
        refine (Tryz.bits_Mul64 x lo hx hl _).mono ?_
        rintro e w1 ⟨rfl,hw⟩
        subst w1
        rw [←HM2.out]
        go_wp2_with fail
        first
          | refine (b2_t _).mono ?_
          | refine (b2_f _).mono ?_
        rintro e w1 ⟨rfl,hw⟩
        subst w1
        go_wp2_with fail
        go_quiet ((go_at_call 151;with_reducible first | exact Calls.quiet_of_same (b2_t _) | exact Calls.quiet_of_same (b2_f _)))
        go_wp2_with fail
        go_ret
        exact ⟨rfl,_,rfl⟩
        refine or_lt56 ?_ ?_ ?_ ?_<;>first | decide | omega | (rw [IntKind.wrap_u64];omega)
structure FInit2 (W0:World):Prop extends FInit W0 where
  p10:∀ i:Nat,i < 696→∃ h l:Nat,h < 18446744073709551616∧l < 18446744073709551616∧W0.cell? ⟨21,i * 2,Option.none⟩=some (.int .u64 h)∧W0.cell? ⟨21,i * 2 + 1,Option.none⟩=some (.int .u64 l)
  p64:∃ fb fo fc,W0.cell? ⟨20,0,Option.none⟩=some (.slice (some ⟨fb,fo,Option.none⟩) 23 fc)∧∀ i:Nat,i < 23→∃ x:Nat,W0.cell? ⟨fb,fo + i,Option.none⟩=some (.float .f64 x)
set_option maxRecDepth 100000 in
set_option maxHeartbeats 40000000 in
theorem pre_any (w:World) (pb:Nat) (e p lp:Int) (i hi lo:Nat) (T:TypeId) (v0 v1 v2:Value) (hi9:p + 348=i) (hi696:i < 696) (hne:¬pb=21) (t0:w.cell? ⟨21,i * 2,none⟩=some (.int .u64 hi)) (t1:w.cell? ⟨21,i * 2 + 1,none⟩=some (.int .u64 lo))
    (hb:w.heap[pb]?=some (.cells #[v0,v1,v2] T (0,0))) (he1:-10000≤e) (he2:e≤10000) (hl1:-10000≤lp) (hl2:lp≤10000) :
    Calls Tryz.prog 160 #[.pointer (some ⟨pb,0,none⟩),.int .i64 e,.int .i64 p,.int .i64 lp] w fun e' w'=>e'=.returned (.tuple #[])∧w'.heap[pb]?=some (.cells #[.int .u64 hi,.int .u64 lo,.int .i64 (-(e + lp + 3))] T (0,0))∧w.grownBy w' (some pb):=by
  have c0:w.cell? ⟨pb,0,none⟩=some v0:=by simp [World.cell?,hb]
  have c1:w.cell? ⟨pb,1,none⟩=some v1:=by simp [World.cell?,hb]
  have c2:w.cell? ⟨pb,2,none⟩=some v2:=by simp [World.cell?,hb]
  have cf:∀ j,w.frozen? ⟨pb,j,none⟩=false:=by simp [World.frozen?,hb]
  have hp1:-348≤p:=by omega
  have hp2:p≤347:=by omega
  have hne2:¬21=pb:=fun x=>hne x.symm
  have HB:=Lib.hid hb;clear hb
  go_enter Tryz.func160,Tryz.ntmps160
  go_wp2_with fail
  go_end0
  refine ⟨rfl,?_,gr_set (gr_set (gr_set (World.grownBy.refl w (some pb)) _ _) _ _) _ _⟩
  simp [World.setCell,Array.getElem?_modify,HB.out]
end Go.Proofs.YtfkecmlmnhbmoaaGreatDoor
namespace Go.Proofs.YtfkecmlmnhbmoaaGreatDoor
open Go Go.RowKit
set_option maxRecDepth 100000 in
set_option maxHeartbeats 40000000 in
theorem l2p_any (w:World) (p:Int) (h1:-10000≤p) (h2:p≤10000):Calls Tryz.prog 161 #[.int .i64 p] w fun e w'=>e=.returned (.int .i64 (p * 108853 / 32768))∧w'=w:=by
  go_enter Tryz.func161,Tryz.ntmps161
  go_wp2_with fail
  go_ret
  exact ⟨rfl,rfl⟩
set_option maxRecDepth 100000 in
set_option maxHeartbeats 40000000 in
theorem umn_any (w:World):Calls Tryz.prog 169 #[.int .u64 9007199254740992] w fun e w'=>e=.returned (.int .u64 36028797018963966)∧w'=w:=by
  go_enter Tryz.func169,Tryz.ntmps169
  go_wp2_with fail
  go_ret
  exact ⟨rfl,rfl⟩
set_option maxRecDepth 100000 in
set_option maxHeartbeats 40000000 in
theorem b2i_t (w:World):Calls Tryz.prog 168 #[.bool true] w fun e w'=>e=.returned (.int .i64 1)∧w'=w:=by
  go_enter Tryz.func168,Tryz.ntmps168
  go_wp2_with fail
  go_ret
  exact ⟨rfl,rfl⟩
set_option maxRecDepth 100000 in
set_option maxHeartbeats 40000000 in
theorem b2i_f (w:World):Calls Tryz.prog 168 #[.bool false] w fun e w'=>e=.returned (.int .i64 0)∧w'=w:=by
  go_enter Tryz.func168,Tryz.ntmps168
  go_wp2_with fail
  go_ret
  exact ⟨rfl,rfl⟩
theorem wr4_range (n:Int) (h0:0≤n) (h1:n≤36028797018963969):0≤IntKind.u64.wrap n / 4∧IntKind.u64.wrap n / 4≤9007199254740992:=by rw [IntKind.wrap_u64];omega
set_option maxRecDepth 100000 in
set_option maxHeartbeats 40000000 in
theorem rnd_ex (u:Int) (h0:0≤u) (h1:u≤36028797018963967):∃ v:Int,(0≤v∧v≤9007199254740992)∧∀ w:World,Calls Tryz.prog 166 #[.int .u64 u] w fun e w'=>e=.returned (.int .u64 v)∧w'=w:=by
  apply Exists.intro
  refine ⟨?_,fun w=>?_⟩
  rotate_left
  go_enter Tryz.func166,Tryz.ntmps166
  go_wp2_with fail
  go_ret
  exact ⟨rfl,rfl⟩
  have hx:0≤bits .and .u64 (u / 4) 1∧bits .and .u64 (u / 4) 1≤1:=u64_and_le (u / 4) 1 (by decide)
  refine wr4_range _ ?_ ?_<;>omega
set_option maxRecDepth 100000 in
set_option maxHeartbeats 40000000 in
theorem pf64_ex (W0:World) (hF:FInit2 W0) (d:Nat) (hd:d < 18446744073709551616) (p:Int) (hp1:-100≤p) (hp2:p≤20) (sg:Int) (hs:sg=0∨sg=9223372036854775808) :
    ∃ x:Nat,nnF x∧∀ w:World,Env W0 w→Calls Tryz.prog 154 #[.int .u64 d,.int .i64 p,.int .u64 sg] w fun e w'=>e=.returned (.tuple #[.float .f64 x,.nilIface])∧w.grownBy w' none:=by
  have hs0:0≤sg:=by omega
  have hs1:sg≤18446744073709551615:=by omega
  have Hs:=Lib.hid hs
  clear hs
  obtain ⟨i,hi⟩:∃ i:Nat,p + 348=i:=⟨(p + 348).toNat,by omega⟩
  obtain ⟨hi9,lo9,hh,hl,t0,t1⟩:=hF.p10 i (by omega)
  obtain ⟨bl,hbl⟩:∃ bl,bl=Lib.bitLen d:=⟨_,rfl⟩
  have hb64:bl≤64:=by rw [hbl];exact Lib.bitLen_le d 64 (Nat.le_refl _) (by omega)
  obtain ⟨X,hX⟩:∃ X:Nat,X < 18446744073709551616∧IntKind.u64.wrap ((d:Int) * 2 ^ (64 - bl))=X:=by
    refine ⟨(IntKind.u64.wrap ((d:Int) * 2 ^ (64 - bl))).toNat,?_,?_⟩
    all_goals rw [IntKind.wrap_u64];omega
  obtain ⟨hX1,hX2⟩:=hX
  obtain ⟨u,⟨hu0,hu1⟩,hus⟩:=us_ex X hi9 lo9 hX1 hh hl
  have hlp1:-10000≤p * 108853 / 32768:=by omega
  have hlp2:p * 108853 / 32768≤10000:=by omega
  obtain ⟨lp,hlp⟩:∃ lp,lp=p * 108853 / 32768:=⟨_,rfl⟩
  have hlp3:-400≤lp:=by omega
  have hlp4:lp≤100:=by omega
  obtain ⟨e0,he0⟩:∃ e0,e0=min (1074:Int) (53 - (bl:Int) - lp):=⟨_,rfl⟩
  have he1:e0=53 - (bl:Int) - lp:=by omega
  have he2:-600≤e0:=by omega
  have he3:e0≤600:=by omega
  have he4:min (1074:Int) (53 - (bl:Int) - lp)=e0:=he0.symm
  clear he0
  have He1:=Lib.hid he1;clear he1
  have Hbl:=Lib.hid hbl;clear hbl
  have Hlp:=Lib.hid hlp;clear hlp
  have hx8:(64:Int) - (bl:Int)=((64 - bl:Nat):Int):=by omega
  obtain ⟨sh,hsh⟩:∃ sh,sh=64 - bl:=⟨_,rfl⟩
  rw [←hsh] at hX2 hx8
  have hsh64:sh≤64:=by omega
  have Hsh:=Lib.hid hsh;clear hsh
  have h21:21 < W0.heap.size:=World.block_lt_of_cell? _ _ t0
  have H21:=Lib.hid h21;clear h21
  have HF:=Lib.hid hF;clear hF
  have HT0:=Lib.hid t0;clear t0
  have HT1:=Lib.hid t1;clear t1
  have Hus:=Lib.hid hus;clear hus
  rcases Bool.eq_false_or_eq_true (decide (36028797018963966≤u)) with hge | hge
  · have hu9:=u64_and_le u 1 (by decide)
    have hor:0≤bits BinOp.or IntKind.u64 (u / 2) (bits BinOp.and IntKind.u64 u 1)∧bits BinOp.or IntKind.u64 (u / 2) (bits BinOp.and IntKind.u64 u 1)≤36028797018963967:=or_lt55 (by omega) (by simp only [decide_eq_true_eq,decide_eq_false_iff_not] at hge;omega) hu9.1 (Int.lt_of_le_of_lt hu9.2 (by decide))
    obtain ⟨v,⟨hv0,hv1⟩,Hrn⟩:=rnd_ex (bits BinOp.or IntKind.u64 (u / 2) (bits BinOp.and IntKind.u64 u 1)) hor.1 hor.2
    have hsn:=or_sign Hs.out hv0 hv1
    obtain ⟨x,Hnn,Hpk⟩:=pack_ex (bits BinOp.or IntKind.u64 sg v) (-(e0 - 1)) hsn.1 hsn.2.1 hsn.2.2 (by omega) (by have:=He1.out;omega)
    clear hu9 hor hsn
    have HRN:=Lib.hid Hrn
    have HPK:=Lib.hid Hpk
    clear Hrn Hpk
    replace hv1:v≤18446744073709551615:=by omega
    refine ⟨x,Hnn,fun w hE=>?_⟩
    clear Hnn
    have hwz:=hE.1
    go_enter Tryz.func154,Tryz.ntmps154
    go_wp2_with fail
    refine (Tryz.bits_Len64 d _ (by omega) (by omega)).mono ?_
    rintro e w1 ⟨rfl,hw⟩
    subst w1
    rw [Int.toNat_natCast,←Hbl.out]
    go_wp2_with fail
    refine (l2p_any _ p (by omega) (by omega)).mono ?_
    rintro e w1 ⟨rfl,hw⟩
    subst w1
    rw [←Hlp.out]
    go_wp2_with fail
    have hnew:=heap_alloc_new w (.cells #[.int .u64 0,.int .u64 0,.int .i64 0] 240 (0,0))
    refine (pre_any _ w.heap.size _ p lp i hi9 lo9 240 _ _ _ hi (by omega) (by have:=H21.out;omega) (by rw [World.cell?_alloc_past _ _ _ (by have:=H21.out;simp;omega)];exact hE.cell HT0.out) (by rw [World.cell?_alloc_past _ _ _ (by have:=H21.out;simp;omega)];exact hE.cell HT1.out) (by exact hnew) (by omega) (by omega) (by omega) (by omega)).mono ?_
    rintro e w1 ⟨rfl,hb1,hg1⟩
    rw [show -(e0 - (sh:Int) + lp + 3)=8 by have:=He1.out;have:=Hsh.out;omega] at hb1
    have d0:w1.cell? ⟨w.heap.size,0,none⟩=some (.int .u64 hi9):=by simp [World.cell?,hb1]
    have d1:w1.cell? ⟨w.heap.size,1,none⟩=some (.int .u64 lo9):=by simp [World.cell?,hb1]
    have d2:w1.cell? ⟨w.heap.size,2,none⟩=some (.int .i64 8):=by simp [World.cell?,hb1]
    have HG1:=Lib.hid (show w.grownBy w1 none from gr_noneThen (gr_alloc (World.grownBy.refl w none) _) hg1 (fun j hj=>by injection hj with hj;omega))
    clear hg1 hb1 hnew
    go_wp2_with fail
    refine (Hus.out w1 w.heap.size d0 d1 d2).mono ?_
    rintro e w2 ⟨rfl,nn,rfl⟩
    go_wp2_with fail
    refine (umn_any _).mono ?_
    rintro e w2 ⟨rfl,hw⟩
    subst w2
    go_wp2_with fail
    first
      | refine (b2i_t _).mono ?_
      | refine (b2i_f _).mono ?_
    rintro e w2 ⟨rfl,hw⟩
    subst w2
    go_wp2_with fail
    refine (HRN.out _).mono ?_
    rintro e w2 ⟨rfl,hw⟩
    subst w2
    go_wp2_with fail
    refine (HPK.out _).mono ?_
    rintro e w2 ⟨rfl,hw⟩
    subst w2
    go_wp2_with fail
    go_ret2
    exact ⟨rfl,gr_drewN HG1.out _⟩
  · have hu9:=u64_and_le u 1 (by decide)
    have hor:0≤bits BinOp.or IntKind.u64 (u) (bits BinOp.and IntKind.u64 u 1)∧bits BinOp.or IntKind.u64 (u) (bits BinOp.and IntKind.u64 u 1)≤36028797018963967:=or_lt55 (by omega) (by simp only [decide_eq_true_eq,decide_eq_false_iff_not] at hge;omega) hu9.1 (Int.lt_of_le_of_lt hu9.2 (by decide))
    obtain ⟨v,⟨hv0,hv1⟩,Hrn⟩:=rnd_ex (bits BinOp.or IntKind.u64 (u) (bits BinOp.and IntKind.u64 u 1)) hor.1 hor.2
    have hsn:=or_sign Hs.out hv0 hv1
    obtain ⟨x,Hnn,Hpk⟩:=pack_ex (bits BinOp.or IntKind.u64 sg v) (-e0) hsn.1 hsn.2.1 hsn.2.2 (by omega) (by have:=He1.out;omega)
    clear hu9 hor hsn
    have HRN:=Lib.hid Hrn
    have HPK:=Lib.hid Hpk
    clear Hrn Hpk
    replace hv1:v≤18446744073709551615:=by omega
    refine ⟨x,Hnn,fun w hE=>?_⟩
    clear Hnn
    have hwz:=hE.1
    go_enter Tryz.func154,Tryz.ntmps154
    go_wp2_with fail
    refine (Tryz.bits_Len64 d _ (by omega) (by omega)).mono ?_
    rintro e w1 ⟨rfl,hw⟩
    subst w1
    rw [Int.toNat_natCast,←Hbl.out]
    go_wp2_with fail
    refine (l2p_any _ p (by omega) (by omega)).mono ?_
    rintro e w1 ⟨rfl,hw⟩
    subst w1
    rw [←Hlp.out]
    go_wp2_with fail
    have hnew:=heap_alloc_new w (.cells #[.int .u64 0,.int .u64 0,.int .i64 0] 240 (0,0))
    refine (pre_any _ w.heap.size _ p lp i hi9 lo9 240 _ _ _ hi (by omega) (by have:=H21.out;omega) (by rw [World.cell?_alloc_past _ _ _ (by have:=H21.out;simp;omega)];exact hE.cell HT0.out) (by rw [World.cell?_alloc_past _ _ _ (by have:=H21.out;simp;omega)];exact hE.cell HT1.out) (by exact hnew) (by omega) (by omega) (by omega) (by omega)).mono ?_
    rintro e w1 ⟨rfl,hb1,hg1⟩
    rw [show -(e0 - (sh:Int) + lp + 3)=8 by have:=He1.out;have:=Hsh.out;omega] at hb1
    have d0:w1.cell? ⟨w.heap.size,0,none⟩=some (.int .u64 hi9):=by simp [World.cell?,hb1]
    have d1:w1.cell? ⟨w.heap.size,1,none⟩=some (.int .u64 lo9):=by simp [World.cell?,hb1]
    have d2:w1.cell? ⟨w.heap.size,2,none⟩=some (.int .i64 8):=by simp [World.cell?,hb1]
    have HG1:=Lib.hid (show w.grownBy w1 none from gr_noneThen (gr_alloc (World.grownBy.refl w none) _) hg1 (fun j hj=>by injection hj with hj;omega))
    clear hg1 hb1 hnew
    go_wp2_with fail
    refine (Hus.out w1 w.heap.size d0 d1 d2).mono ?_
    rintro e w2 ⟨rfl,nn,rfl⟩
    go_wp2_with fail
    refine (umn_any _).mono ?_
    rintro e w2 ⟨rfl,hw⟩
    subst w2
    go_wp2_with fail
    first
      | refine (b2i_t _).mono ?_
      | refine (b2i_f _).mono ?_
    rintro e w2 ⟨rfl,hw⟩
    subst w2
    go_wp2_with fail
    refine (HRN.out _).mono ?_
    rintro e w2 ⟨rfl,hw⟩
    subst w2
    go_wp2_with fail
    refine (HPK.out _).mono ?_
    rintro e w2 ⟨rfl,hw⟩
    subst w2
    go_wp2_with fail
    go_ret2
    exact ⟨rfl,gr_drewN HG1.out _⟩
end Go.Proofs.YtfkecmlmnhbmoaaGreatDoor
namespace Go.Proofs.YtfkecmlmnhbmoaaGreatDoor
open Go Go.RowKit
def rfRet (l:By) (n:Nat):Ending:=.returned (.tuple #[.int .u64 (rfF (numStrip l) 0 0 0 false).1,.int .i64 (if (rfF (numStrip l) 0 0 0 false).1=0 then 0 else (rfF (numStrip l) 0 0 0 false).2.2.1 - (min (rfF (numStrip l) 0 0 0 false).2.1 19:Nat)),
  .bool (headIs l (· == 45)),.bool (rfF (numStrip l) 0 0 0 false).2.2.2,.bool false,.int .i64 n,.bool true])
end Go.Proofs.YtfkecmlmnhbmoaaGreatDoor
namespace Go.Proofs.YtfkecmlmnhbmoaaGreatDoor
open Go Go.RowKit
theorem take_set_at {A:By} {n:Nat} (h:n < A.length) (c:UInt8):(A.set n c).take (n + 1)=A.take n ++ [c]:=by
  rw [List.set_eq_take_append_cons_drop,if_pos h,List.take_append,List.length_take,Nat.min_eq_left (by omega)]
  simp
  rw [List.take_of_length_le (by simp;omega)]
theorem DecN.digit {w:World} {b N:Nat} {dp:Int} {neg tr:Bool} (h:DecN w b N dp neg tr) {c:UInt8} (h1:48≤c.toNat) (h2:c.toNat≤57) (h0:¬(c.toNat=48∧N=0)) (h8:numD N≤799) :
    DecN ((w.setCell ⟨b,numD N,none⟩ (.int .u8 (c.toNat:Int))).setCell ⟨b,800,none⟩ (.int .i64 ((numD N:Nat) + 1))) b (10 * N + (c.toNat - 48)) dp neg tr:=by
  obtain ⟨h3,A,hD,hds,hdv⟩:=h
  have hd:=numD_dig (N:=N) (d:=c.toNat - 48) (by omega) (fun x=>h0 ⟨by omega,x.2⟩)
  have hl:=hD.1
  have ht:=take_set_at (A:=A) (n:=numD N) (by omega) c
  refine ⟨by omega,A.set (numD N) c,?_,?_,?_⟩
  · have:=(hD.setDig (i:=numD N) (by omega) c).setNd (numD N + 1)
    rw [hd]
    simpa using this
  · rw [hd,ht];exact isDs_snoc hds h1 h2
  · rw [hd,ht,dv_snoc,hdv]
theorem DecN.setDp {w:World} {b N:Nat} {dp:Int} {neg tr:Bool} (h:DecN w b N dp neg tr) (n:Int):DecN (w.setCell ⟨b,801,none⟩ (.int .i64 n)) b N n neg tr:=by
  obtain ⟨h3,A,hD,hds,hdv⟩:=h
  exact ⟨h3,A,hD.setDp n,hds,hdv⟩
theorem DecN.drewN {w:World} {b N:Nat} {dp:Int} {neg tr:Bool} (h:DecN w b N dp neg tr) (n:Nat):DecN (w.drewN n) b N dp neg tr:=h.heap rfl
theorem DecN.zero {w:World} {b:Nat} {A:By} {neg tr:Bool} {dp:Int} (h:DecAt w b A 0 dp neg tr):DecN w b 0 dp neg tr:=by
  refine ⟨by rw [numD_zero];omega,A,by rw [numD_zero];exact h,?_,?_⟩
  · rw [numD_zero];intro x hx;cases hx
  · rw [numD_zero];simp [dv]
end Go.Proofs.YtfkecmlmnhbmoaaGreatDoor
namespace Go.Proofs.YtfkecmlmnhbmoaaGreatDoor
open Go Go.RowKit
set_option maxRecDepth 100000 in
set_option maxHeartbeats 40000000 in
theorem set_b (w:World) (b:Nat) (A:By) (s:ByteArray) (c:UInt8) (l1:By) (d a:Int) (hD:DecAt w b A 0 0 false false) (hs:s.data.toList=[43] ++ c::l1) (hsc:numScan (c::l1) 0 0 0=some (d,1,a)) (hd1:1≤d) (hd2:d≤60) (ha:a≤14) (hs2:s.size≤1000) :
    Calls Tryz.prog 149 #[.pointer (some ⟨b,0,none⟩),.string s] w fun e w'=>e=.returned (.bool true)∧DecN w' b (stF (c::l1) 0 0).1 (stF (c::l1) 0 0).2 false false∧w.grownBy w' (some b):=by
  generalize hR:stF (c::l1) 0 0=R
  have HR:=Lib.hid hR;clear hR
  obtain ⟨hc1,hc2⟩:=scan_dig hsc
  have Hsc:=Lib.hid hsc;clear hsc
  obtain ⟨c0,c1,c2,c3,cf⟩:=hD.cells
  have HD:=Lib.hid hD;clear hD
  obtain ⟨hlt,hcc,hd,hc0,_⟩:=at_byte (pre:=[]) (c:=43) (l:=c::l1) (by simpa using hs)
  simp only [List.length_nil] at hlt hcc hd
  have h1:¬s=ByteArray.empty:=by intro e;rw [e] at hlt;exact absurd hlt (by decide)
  have Hs:=Lib.hid hs;clear hs
  go_enter Tryz.func149,Tryz.ntmps149
  go_wp2_with fail
  have Hl0:=Lib.hid (show (c::l1).length=(c::l1).length from rfl)
  go_loopg [5,6,7] ((c::l1).length) (fun g t5 t6 t7 wr=>∃ (q l':By) (N:Nat) (dp d' p' a':Int) (sd sg:Bool),g=l'.length∧t5=.int .i64 (([43] ++ q:By).length:Nat)∧t6=.bool sd∧t7=.bool sg∧sd=(p' == 1)∧sg=decide (0 < d') ∧
    s.data.toList=([43] ++ q) ++ l'∧numScan l' d' p' a'=some (d,1,a)∧stF l' N dp=R∧(numD N:Nat)≤d'∧-d'≤dp∧dp≤d'∧0≤p'∧DecN wr b N dp false false∧w.grownBy wr (some b))
  case atStart=>exact ⟨[],c::l1,0,0,0,0,0,false,false,Hl0.out,rfl,rfl,rfl,by simp,by simp,by simpa using Hs.out,Hsc.out,HR.out,by rw [numD_zero];simp,by omega,by omega,by omega,DecN.zero ((HD.out.setNeg false).setTr false),(by repeat (first | with_reducible exact World.grownBy.refl w (some b) | with_reducible apply gr_alloc | with_reducible apply gr_drewN | with_reducible apply gr_drew | with_reducible apply gr_set | ((with_reducible refine gr_setM ?_ ?_ _ _);rotate_left;(first | omega | (simp;omega)))))⟩
  case round =>
    clear Hl0 c0 c1 c2 c3 cf
    obtain ⟨q,l',N,dp,d',p',a',sd,sg,hg,rfl,rfl,rfl,hsd,hsg,hsl,hsc',hst,hnd,hdp1,hdp2,hp0,hD,hG⟩:=hrel
    have hsm:=scan_mono _ _ _ _ _ _ _ hsc'
    obtain ⟨c0,c1,c2,c3,cf⟩:=hD.cells
    obtain ⟨pq,hpq⟩:∃ pq,pq=[43] ++ q:=⟨_,rfl⟩
    rw [←hpq] at hsl ⊢
    obtain ⟨nd,hndd⟩:∃ nd,nd=numD N:=⟨_,rfl⟩
    rw [←hndd] at c0 hnd
    have hndb:nd≤60:=by omega
    have hdpb1:-60≤dp:=by omega
    have hdpb2:dp≤60:=by omega
    have Hpq:=Lib.hid hpq;clear hpq
    have Hnd:=Lib.hid hndd;clear hndd
    have Hg:=Lib.hid hg;clear hg
    have Hst:=Lib.hid hst;clear hst
    have Hsc':=Lib.hid hsc';clear hsc'
    have HG:=Lib.hid hG;clear hG
    cases l' with
    | nil =>
      have hlt9:¬pq.length < s.size:=by have:=congrArg List.length hsl;simp at this;omega
      have hpqs:((pq.length:Int) != (s.size:Int))=false:=by have:=congrArg List.length hsl;simp at this ⊢;omega
      have hend:d'=d∧p'=1:=by have:=Hsc'.out;simp [numScan] at this;omega
      obtain rfl:sd=true:=by rw [hsd];simp;omega
      obtain rfl:sg=true:=by rw [hsg];simp;omega
      have Hsl:=Lib.hid hsl;clear hsl
      have HD2:=Lib.hid hD;clear hD
      clear hsd hsg hsm hend
      go_wp2_with fail
      go_ret
      have e:R=(N,dp):=by rw [←Hst.out];rfl
      rw [e]
      exact ⟨rfl,HD2.out,HG.out⟩
    | cons c3' l3 =>
      obtain ⟨hlt3,hc3,hd3,hr3,hr4⟩:=at_byte hsl
      have Hsl:=Lib.hid hsl;clear hsl
      have h95:((c3'.toNat:Int) == 95)=false:=by have:=scan_dig Hsc'.out;simp;omega
      rcases scan_cons Hsc'.out with ⟨hz1,hz2,hz3⟩ | ⟨hz1,hz3⟩
      · have h46:((c3'.toNat:Int) == 46)=false:=by simp;omega
        have hm2:=scan_mono _ _ _ _ _ _ _ hz3
        have Hz3:=Lib.hid hz3;clear hz3
        have Hsd:=Lib.hid hsd;clear hsd
        clear hsg hsm
        have hdd:0≤d':=by omega
        have Hcn:=Lib.hid (show ¬c3'.toNat=46 by omega)
        have hNz:nd=0↔N=0:=by
          have:=Hnd.out
          constructor
          · intro e;by_cases h0:N=0
            · exact h0
            · have:=numD_pos1 h0;omega
          · intro e;rw [this,e,numD_zero]
        by_cases h48:c3'.toNat=48
        · have hb48:((c3'.toNat:Int) == 48)=true:=by simp;omega
          have H48:=Lib.hid h48
          clear h48
          by_cases hn0:nd=0
          · have hbn:((nd:Int) == 0)=true:=by simp;omega
            have HN0:=Lib.hid (hNz.1 hn0)
            have Hn0:=Lib.hid hn0
            clear hn0 hNz
            have HD2:=Lib.hid hD;clear hD
            go_wp2_with fail
            go_roundg l3.length
            case measure=>rw [Hg.out];simp
            case rel =>
              refine ⟨q ++ [c3'],l3,N,dp - 1,d' + 1,p',_,sd,true,rfl,by rw [←List.append_assoc,←Hpq.out];simp,rfl,rfl,Hsd.out,by simp;omega,by rw [←List.append_assoc,←Hpq.out,Hsl.out];simp,Hz3.out,?_,by rw [←Hnd.out];omega,by omega,by omega,hp0,HD2.out.setDp _,(by repeat (first | with_reducible exact HG.out | with_reducible apply gr_alloc | with_reducible apply gr_drewN | with_reducible apply gr_drew | with_reducible apply gr_set | ((with_reducible refine gr_setM ?_ ?_ _ _);rotate_left;(first | omega | (simp;omega)))))⟩
              rw [←Hst.out];simp only [stF];rw [if_neg Hcn.out,if_pos ⟨H48.out,HN0.out⟩]
          · have hbn:((nd:Int) == 0)=false:=by simp;omega
            have HNz:=Lib.hid (show ¬(c3'.toNat=48∧N=0) from fun x=>hn0 (hNz.2 x.2))
            clear hn0 hNz
            obtain ⟨c9,hc9,cw⟩:∃ c9:UInt8,True∧wr.cell? ⟨b,nd,none⟩=some (.int .u8 (c9.toNat:Int)):=by
              obtain ⟨_,A9,hA9,_,_⟩:=hD
              obtain ⟨c9,_,cw⟩:=hA9.digE (i:=nd) (by omega)
              exact ⟨c9,trivial,cw⟩
            clear hc9
            have HD2:=Lib.hid hD;clear hD
            go_wp2_with fail
            (refine wp_region_quiet_tail 11 (by kernel_rfl) (by kernel_rfl) ?_;simp only [List.take_succ_cons,List.take_zero,List.drop_succ_cons,List.drop_zero];(repeat (go_big_quiet_step ((first|(go_at_call 42;with_reducible first|exact qaw _|exact qbw _)|(go_at_call 43;with_reducible first|exact qap _|exact qbp _)|(go_at_call 52;with_reducible first|exact qad _|exact qbd _)|(go_at_call 76;with_reducible first|exact qar _|exact qbr _)|(go_at_call 75;with_reducible first|exact qag _|exact qbg _)))));refine wpQuiet_nil ?_;intro _ hwt;obtain ⟨nt,hwt'⟩:=hwt;subst hwt';go_wp2_with fail)
            go_roundg l3.length
            case measure=>rw [Hg.out];simp
            case rel =>
              have h9:=(HD2.out.drewN nt).digit hz1 hz2 HNz.out (by rw [←Hnd.out];omega)
              rw [←Hnd.out] at h9
              have hdn:=numD_dig (N:=N) (d:=c3'.toNat - 48) (by omega) (fun x=>HNz.out ⟨by omega,x.2⟩)
              refine ⟨q ++ [c3'],l3,_,dp,d' + 1,p',_,sd,true,rfl,by rw [←List.append_assoc,←Hpq.out];simp,rfl,rfl,Hsd.out,by simp;omega,by rw [←List.append_assoc,←Hpq.out,Hsl.out];simp,Hz3.out,?_,by rw [hdn,←Hnd.out];omega,by omega,by omega,hp0,h9,(by repeat (first | with_reducible exact HG.out | with_reducible apply gr_alloc | with_reducible apply gr_drewN | with_reducible apply gr_drew | with_reducible apply gr_set | ((with_reducible refine gr_setM ?_ ?_ _ _);rotate_left;(first | omega | (simp;omega)))))⟩
              rw [←Hst.out];simp only [stF];rw [if_neg Hcn.out,if_neg HNz.out]
        · have hb48:((c3'.toNat:Int) == 48)=false:=by simp;omega
          have HNz:=Lib.hid (show ¬(c3'.toNat=48∧N=0) from fun x=>h48 x.1)
          clear h48 hNz
          obtain ⟨c9,hc9,cw⟩:∃ c9:UInt8,True∧wr.cell? ⟨b,nd,none⟩=some (.int .u8 (c9.toNat:Int)):=by
            obtain ⟨_,A9,hA9,_,_⟩:=hD
            obtain ⟨c9,_,cw⟩:=hA9.digE (i:=nd) (by omega)
            exact ⟨c9,trivial,cw⟩
          clear hc9
          have HD2:=Lib.hid hD;clear hD
          go_wp2_with fail
          (refine wp_region_quiet_tail 11 (by kernel_rfl) (by kernel_rfl) ?_;simp only [List.take_succ_cons,List.take_zero,List.drop_succ_cons,List.drop_zero];(repeat (go_big_quiet_step ((first|(go_at_call 42;with_reducible first|exact qaw _|exact qbw _)|(go_at_call 43;with_reducible first|exact qap _|exact qbp _)|(go_at_call 52;with_reducible first|exact qad _|exact qbd _)|(go_at_call 76;with_reducible first|exact qar _|exact qbr _)|(go_at_call 75;with_reducible first|exact qag _|exact qbg _)))));refine wpQuiet_nil ?_;intro _ hwt;obtain ⟨nt,hwt'⟩:=hwt;subst hwt';go_wp2_with fail)
          go_roundg l3.length
          case measure=>rw [Hg.out];simp
          case rel =>
            have h9:=(HD2.out.drewN nt).digit hz1 hz2 HNz.out (by rw [←Hnd.out];omega)
            rw [←Hnd.out] at h9
            have hdn:=numD_dig (N:=N) (d:=c3'.toNat - 48) (by omega) (fun x=>HNz.out ⟨by omega,x.2⟩)
            refine ⟨q ++ [c3'],l3,_,dp,d' + 1,p',_,sd,true,rfl,by rw [←List.append_assoc,←Hpq.out];simp,rfl,rfl,Hsd.out,by simp;omega,by rw [←List.append_assoc,←Hpq.out,Hsl.out];simp,Hz3.out,?_,by rw [hdn,←Hnd.out];omega,by omega,by omega,hp0,h9,(by repeat (first | with_reducible exact HG.out | with_reducible apply gr_alloc | with_reducible apply gr_drewN | with_reducible apply gr_drew | with_reducible apply gr_set | ((with_reducible refine gr_setM ?_ ?_ _ _);rotate_left;(first | omega | (simp;omega)))))⟩
            rw [←Hst.out];simp only [stF];rw [if_neg Hcn.out,if_neg HNz.out]
      · have h46:((c3'.toNat:Int) == 46)=true:=by simp;omega
        have hp1:=scan_mono _ _ _ _ _ _ _ hz3
        obtain rfl:sd=false:=by rw [hsd];simp;omega
        have Hz3:=Lib.hid hz3;clear hz3
        have Hsg:=Lib.hid hsg;clear hsg
        have HZ1:=Lib.hid hz1
        clear hsd hsm hz1
        have hp9:p'=0:=by omega
        have Hp9:=Lib.hid hp9
        clear hp1 hp9
        have HD2:=Lib.hid hD;clear hD
        go_wp2_with fail
        go_roundg l3.length
        case measure=>rw [Hg.out];simp
        case rel=>exact ⟨q ++ [c3'],l3,N,nd,d',p' + 1,a',true,sg,rfl,by rw [←List.append_assoc,←Hpq.out];simp,rfl,rfl,by rw [Hp9.out];rfl,Hsg.out,by rw [←List.append_assoc,←Hpq.out,Hsl.out];simp,Hz3.out,by rw [←Hst.out];simp only [stF];rw [if_pos HZ1.out,Hnd.out],by rw [←Hnd.out];omega,by omega,by omega,by omega,HD2.out.setDp _,(by repeat (first | with_reducible exact HG.out | with_reducible apply gr_alloc | with_reducible apply gr_drewN | with_reducible apply gr_drew | with_reducible apply gr_set | ((with_reducible refine gr_setM ?_ ?_ _ _);rotate_left;(first | omega | (simp;omega)))))⟩
end Go.Proofs.YtfkecmlmnhbmoaaGreatDoor
namespace Go.Proofs.YtfkecmlmnhbmoaaGreatDoor
open Go Go.RowKit
def nmCs:By:=[47,60,62,40,41,91,93,37]
theorem reg_range {n:Int} (h:isReg n=true):n≠0∧n≠9∧n≠10∧n≠12∧n≠13∧n≠32∧n≠40∧n≠41∧n≠60∧n≠62∧n≠91∧n≠93∧n≠123∧n≠125∧n≠47∧n≠37:=by
  unfold isReg isWhite isDelim at h
  simp at h
  omega
theorem notreg_range {n:Int} (h:isReg n=false):n=0∨n=9∨n=10∨n=12∨n=13∨n=32∨n=40∨n=41∨n=60∨n=62∨n=91∨n=93∨n=123∨n=125∨n=47∨n=37:=by
  unfold isReg isWhite isDelim at h
  simp at h
  omega
theorem any_lit {c:UInt8} {cs:By} : (cs.any fun x=>c.toNat == x.toNat)=decide (c∈cs):=by
  induction cs with
  | nil=>simp
  | cons d cs ih =>
    rw [List.any_cons,ih]
    by_cases h:c=d
    · subst h;simp
    · have:(c.toNat == d.toNat)=false:=by simp only [beq_eq_false_iff_ne];exact fun e=>h (UInt8.toNat_inj.1 e)
      rw [this];simp [h]
theorem stop_word {cs:By} (hcs:∀ x∈cs,isReg (x.toNat:Int)=false) {c:UInt8} (h1:isReg (c.toNat:Int)=true) (h2:isPlain (c.toNat:Int)=true):(c.toNat:Int) < 128∧stopZ cs c.toNat=false:=by
  have r1:=reg_range h1
  have r2:=plain_range h2
  refine ⟨by omega,?_⟩
  unfold stopZ
  rw [any_lit]
  have hn:c∉cs:=fun hm=>by rw [hcs c hm] at h1;exact absurd h1 (by decide)
  have hs:spaceZ (c.toNat:Nat)=false:=by
    unfold spaceZ
    simp only [Bool.or_eq_false_iff,beq_eq_false_iff_ne,Bool.and_eq_false_iff,decide_eq_false_iff_not]
    omega
  have h0:(c.toNat == 0)=false:=by simp only [beq_eq_false_iff_ne];omega
  rw [hs,h0];simp [hn]
theorem white_stop {cs:By} {c:UInt8} (h:isWhite (c.toNat:Int)=true):(c.toNat:Int) < 128∧stopZ cs c.toNat=true:=by
  have r:=white_range h
  refine ⟨by omega,?_⟩
  unfold stopZ
  by_cases h0:(c.toNat:Int)=0
  · have:(c.toNat == 0)=true:=by simp;omega
    rw [this];simp
  · rw [(sp_white h h0).2];simp
theorem mem_stop {cs:By} {c:UInt8} (h:c∈cs):stopZ cs c.toNat=true:=by
  unfold stopZ;rw [any_lit];simp [h]
theorem word_end {l:By} (h:wordO l false=false):∀ c∈(wordR l).head?,isWhite (c.toNat:Int)=true∨c∈([47,60,62,40,91,93,37]:By):=by
  intro c hc
  obtain ⟨h1,h2,h3,h4⟩:=(wordO_plain l h).2 c hc
  have:=notreg_range h1
  by_cases hw:isWhite (c.toNat:Int)=true
  · exact .inl hw
  · right
    have hw':isWhite (c.toNat:Int)=false:=by simpa using hw
    have hn:(c.toNat:Int)≠0∧(c.toNat:Int)≠9∧(c.toNat:Int)≠10∧(c.toNat:Int)≠12∧(c.toNat:Int)≠13∧(c.toNat:Int)≠32:=by
      unfold isWhite at hw';simp at hw';omega
    simp only [List.mem_cons,List.not_mem_nil,or_false,←UInt8.toNat_inj]
    simp
    omega
theorem word_pos (cs:By) (hcs:∀ x∈cs,isReg (x.toNat:Int)=false) (hin:∀ x∈([47,60,62,40,91,93,37]:By),x∈cs) {l:By} (h:wordO l false=false):Lib.idxFunc (stopZ cs) true (bs l)=if wordR l=[] then -1 else ((wordT l).length:Int):=by
  conv=>lhs;rw [←word_split (l:=l)]
  refine idx_true _ _ _ (fun c hc=>?_) (fun c hc=>?_)
  · obtain ⟨h1,h2⟩:=(wordO_plain l h).1 c hc
    exact stop_word hcs h1 h2
  · rcases word_end h c hc with hw | hm
    · exact white_stop hw
    · refine ⟨?_,mem_stop (hin c hm)⟩
      simp only [List.mem_cons,List.not_mem_nil,or_false,←UInt8.toNat_inj] at hm
      simp at hm
      omega
set_option maxRecDepth 100000 in
set_option maxHeartbeats 40000000 in
theorem dnh_any (W0:World) (hI:InitP W0) (l k:By) (hk:nameB l []=some k) (hpl:∀ c∈l,isPlain (c.toNat:Int)=true) (hl:l.length≤1000000) (w:World) (hE:Env W0 w):Calls Tryz.prog 132 #[.string (bs l)] w fun e w'=>e=.returned (.tuple #[.string (bs k),.nilIface])∧Below w.heap.size w w':=by
  go_enter Tryz.func132,Tryz.ntmps132
  go_wp2_with fail
  refine (decname_any W0 hI l k hk hpl hl w hE).mono ?_
  rintro e w1 ⟨rfl,hb⟩
  go_wp2_with fail
  go_ret2
  exact ⟨rfl,hb⟩
set_option maxRecDepth 100000 in
set_option maxHeartbeats 40000000 in
theorem name100_any (W0:World) (hI:InitP W0) (w:World) (hE:Env W0 w) (b:Nat) (l k:By) (hL:LineAt w b (47::l)) (ho:wordO l false=false) (hk:nameB (wordT l) []=some k) (hl:l.length≤1000000) (hW0:W0.heap.size≤b) :
    Calls Tryz.prog 100 #[.pointer (some ⟨b,0,none⟩)] w fun e w'=>(∃ pb,e=.returned (.tuple #[.pointer (some ⟨pb,0,none⟩),.nilIface])∧w'.heap[pb]?=some (.cells #[.string (bs k)] 71 (0,0))∧w.heap.size≤pb)∧LineAt w' b (wordR l)∧w.grownBy w' (some b):=by
  obtain ⟨c0,f0⟩:=hL.cell
  have hbw:=hL.lt
  have hpos:=pos_any (bs l) nmCs (by decide) (by decide)
  rw [word_pos nmCs (by decide) (by decide) ho] at hpos
  have hwpl:∀ c∈wordT l,isPlain (c.toNat:Int)=true:=fun c hc=>((wordO_plain l ho).1 c hc).2
  have hwl:(wordT l).length≤l.length:=(List.takeWhile_sublist _).length_le
  obtain ⟨z,hz⟩:∃ z,z=bs (47::l):=⟨_,rfl⟩
  obtain ⟨y,hy⟩:∃ y,y=bs l:=⟨_,rfl⟩
  have hzs:z.size=l.length + 1:=by rw [hz,bs_size];simp
  have hys:y.size=l.length:=by rw [hy,bs_size]
  have hpre:=fun w=>prefix_any (47::l) [47] true (by simp) w
  have hfwd:=fun w=>fwd_any (47::l) 1 w
  have hx1:y.extract 0 (wordT l).length=bs (wordT l):=by
    rw [hy,bs_take];congr 1
    conv=>lhs;arg 2;rw [←word_split (l:=l)]
    simp
  have hx2:y.extract (wordT l).length y.size=bs (wordR l):=by
    rw [hys,hy,bs_drop];congr 1
    conv=>lhs;arg 2;rw [←word_split (l:=l)]
    simp
  rw [←hz] at c0 hpre hfwd
  simp only [List.drop_succ_cons,List.drop_zero,←hy] at hfwd
  rw [←hy] at hpos
  have hyR:wordR l=[]→y=bs (wordT l):=by
    intro e
    rw [hy]
    conv=>lhs;rw [←word_split (l:=l),e,List.append_nil]
  have HyR:=Lib.hid hyR
  clear hyR
  have hz0:((z.size:Int) == 0)=false:=by rw [hzs];simp only [beq_eq_false_iff_ne];omega
  have hle:(wordT l).length≤y.size:=by omega
  have e47:(⟨#[47]⟩:ByteArray)=bs [47]:=rfl
  have ecs:(⟨#[47,60,62,40,41,91,93,37]⟩:ByteArray)=bs nmCs:=rfl
  have HL:=Lib.hid hL
  have HI:=Lib.hid hI
  have HE:=Lib.hid hE
  have Hk:=Lib.hid hk
  have Hpl:=Lib.hid hwpl
  clear hL hI hE hk hwpl ho hz hy hzs hys
  obtain ⟨W,hW⟩:∃ W,W=wordT l:=⟨_,rfl⟩
  obtain ⟨R,hR⟩:∃ R,R=wordR l:=⟨_,rfl⟩
  rw [←hW] at hpos hwl hx1 hx2 hle Hk Hpl HyR
  rw [←hR] at hpos hx2 HyR ⊢
  clear hW hR
  go_enter Tryz.func100,Tryz.ntmps100
  go_wp2_with fail
  refine (hpre _).mono ?_
  rintro e w1' ⟨rfl,hw1⟩
  subst w1'
  go_wp2_with fail
  refine (hfwd _).mono ?_
  rintro e w1' ⟨rfl,hw1⟩
  subst w1'
  go_wp2_with fail
  refine (hpos _).mono ?_
  rintro e w2 ⟨⟨v,rfl⟩,hb2⟩
  have hL2:=HL.out.keep (gr_of_below hb2) (by simp)
  obtain ⟨c2,f2⟩:=hL2.cell
  have hlt2:=hL2.lt
  have HG2:=Lib.hid ((gr_of_below hb2).but (some b))
  have HL2:=Lib.hid hL2
  clear hpos hpre hfwd hL2 hb2
  by_cases hRn:R=[]
  · subst hRn
    have hyW:y=bs W:=HyR.out rfl
    subst hyW
    simp only [if_true]
    clear hx1 hx2 hle
    go_wp2_with fail
    refine (dnh_any W0 HI.out W k Hk.out Hpl.out (by omega) _ (by exact (HE.out.grown HG2.out (fun k hk=>by injection hk with hk;omega)).grown (gr_set (World.grownBy.refl _ (some b)) _ _) (fun k hk=>by injection hk with hk;omega))).mono ?_
    rintro e w3 ⟨rfl,hb3⟩
    have HL3:=Lib.hid ((HL2.out.set _).keep (gr_of_below hb3) (by simp))
    have HG3:=Lib.hid (gr_same (gr_set HG2.out _ _) ((gr_of_below hb3).but (some b)))
    have hs3:=HG3.out.size
    clear hb3
    go_wp2_with fail
    go_ret2
    exact ⟨⟨w3.heap.size,rfl,heap_alloc_new w3 _,hs3⟩,HL3.out.keep (gr_alloc (World.grownBy.refl _ none) _) (by simp),gr_alloc HG3.out _⟩
  · rw [if_neg hRn]
    clear HyR
    go_wp2_with fail
    refine (dnh_any W0 HI.out W k Hk.out Hpl.out (by omega) _ (by exact (HE.out.grown HG2.out (fun k hk=>by injection hk with hk;omega)).grown (gr_set (World.grownBy.refl _ (some b)) _ _) (fun k hk=>by injection hk with hk;omega))).mono ?_
    rintro e w3 ⟨rfl,hb3⟩
    have HL3:=Lib.hid ((HL2.out.set _).keep (gr_of_below hb3) (by simp))
    have HG3:=Lib.hid (gr_same (gr_set HG2.out _ _) ((gr_of_below hb3).but (some b)))
    have hs3:=HG3.out.size
    clear hb3
    go_wp2_with fail
    go_ret2
    exact ⟨⟨w3.heap.size,rfl,heap_alloc_new w3 _,hs3⟩,HL3.out.keep (gr_alloc (World.grownBy.refl _ none) _) (by simp),gr_alloc HG3.out _⟩
end Go.Proofs.YtfkecmlmnhbmoaaGreatDoor
namespace Go.Proofs.YtfkecmlmnhbmoaaGreatDoor
open Go Go.RowKit
theorem bs_lit4 {l:By} {a b c d:UInt8} {r:By} (h:l=a::b::c::d::r):(bs l).extract 0 4=bs [a,b,c,d]:=by rw [bs_extract,h];rfl
set_option maxRecDepth 100000 in
set_option maxHeartbeats 40000000 in
theorem bon_null (l r:By) (h:l=110::117::108::108::r) (hl:l.length≤1000000) (w:World):Calls Tryz.prog 103 #[.string (bs l)] w fun e w'=>e=.returned (.tuple #[.nilIface,.string (bs [110,117,108,108]),.bool true])∧Below w.heap.size w w':=by
  have hx:=bs_lit4 h
  obtain ⟨z,hz⟩:∃ z,z=bs l:=⟨_,rfl⟩
  rw [←hz] at hx ⊢
  have hzs:4≤z.size:=by rw [hz,bs_size,h];simp
  have hz4:¬z.size < 4:=by omega
  clear hz h
  have e1:(⟨#[110,117,108,108]⟩:ByteArray)=bs [110,117,108,108]:=rfl
  go_enter Tryz.func103,Tryz.ntmps103
  go_wp2_with fail
  refine (lower_any [110,117,108,108] (by decide) w).mono ?_
  rintro e w1 ⟨rfl,hb1⟩
  have hlo:([110,117,108,108]:By).map loB=[110,117,108,108]:=by decide
  rw [hlo]
  go_wp2_with fail
  refine (prefix_any [110,117,108,108] [110,117,108,108] true (by decide) w1).mono ?_
  rintro e w2 ⟨rfl,hw2⟩
  subst w2
  have y30:∀ (a b c:Value),([a,b,c]:List Value)[0]?=some a:=fun _ _ _=>rfl
  have y31:∀ (a b c:Value),([a,b,c]:List Value)[1]?=some b:=fun _ _ _=>rfl
  have y32:∀ (a b c:Value),([a,b,c]:List Value)[2]?=some c:=fun _ _ _=>rfl
  go_wp2_with fail
  refine bodyPost_ret (v:=.tuple #[.nilIface,.string (bs [110,117,108,108]),.bool true]) (by simp [results,Tryz.results103,go_sem]<;>rfl) rfl ⟨rfl,hb1⟩
set_option maxRecDepth 100000 in
set_option maxHeartbeats 40000000 in
theorem bon_true (l r:By) (h:l=116::114::117::101::r) (hl:l.length≤1000000) (w:World):Calls Tryz.prog 103 #[.string (bs l)] w fun e w'=>e=.returned (.tuple #[.iface 66 (.bool true),.string (bs [116,114,117,101]),.bool true])∧Below w.heap.size w w':=by
  have hx:=bs_lit4 h
  obtain ⟨z,hz⟩:∃ z,z=bs l:=⟨_,rfl⟩
  rw [←hz] at hx ⊢
  have hzs:4≤z.size:=by rw [hz,bs_size,h];simp
  have hz4:¬z.size < 4:=by omega
  clear hz h
  have e1:(⟨#[110,117,108,108]⟩:ByteArray)=bs [110,117,108,108]:=rfl
  have e2:(⟨#[116,114,117,101]⟩:ByteArray)=bs [116,114,117,101]:=rfl
  go_enter Tryz.func103,Tryz.ntmps103
  go_wp2_with fail
  refine (lower_any [116,114,117,101] (by decide) w).mono ?_
  rintro e w1 ⟨rfl,hb1⟩
  have hlo:([116,114,117,101]:By).map loB=[116,114,117,101]:=by decide
  rw [hlo]
  go_wp2_with fail
  refine (prefix_any [116,114,117,101] [110,117,108,108] false (by decide) w1).mono ?_
  rintro e w2 ⟨rfl,hw2⟩
  subst w2
  go_wp2_with fail
  refine (prefix_any [116,114,117,101] [116,114,117,101] true (by decide) w1).mono ?_
  rintro e w2 ⟨rfl,hw2⟩
  subst w2
  have y30:∀ (a b c:Value),([a,b,c]:List Value)[0]?=some a:=fun _ _ _=>rfl
  have y31:∀ (a b c:Value),([a,b,c]:List Value)[1]?=some b:=fun _ _ _=>rfl
  have y32:∀ (a b c:Value),([a,b,c]:List Value)[2]?=some c:=fun _ _ _=>rfl
  go_wp2_with fail
  refine bodyPost_ret (v:=.tuple #[.iface 66 (.bool true),.string (bs [116,114,117,101]),.bool true]) (by simp [results,Tryz.results103,go_sem]<;>rfl) rfl ⟨rfl,hb1⟩
set_option maxRecDepth 100000 in
set_option maxHeartbeats 40000000 in
theorem bon_false (l r:By) (h:l=102::97::108::115::101::r) (hl:l.length≤1000000) (w:World):Calls Tryz.prog 103 #[.string (bs l)] w fun e w'=>e=.returned (.tuple #[.iface 66 (.bool false),.string (bs [102,97,108,115,101]),.bool true])∧Below w.heap.size w w':=by
  have hx:=bs_lit4 h
  have hx2:(bs l).extract 4 5=bs [101]:=by rw [bs_extract,h];rfl
  obtain ⟨z,hz⟩:∃ z,z=bs l:=⟨_,rfl⟩
  rw [←hz] at hx hx2 ⊢
  have hzs:5≤z.size:=by rw [hz,bs_size,h];simp
  have hz4:¬z.size < 4:=by omega
  have hz5:¬z.size < 5:=by omega
  clear hz h
  have e1:(⟨#[110,117,108,108]⟩:ByteArray)=bs [110,117,108,108]:=rfl
  have e2:(⟨#[116,114,117,101]⟩:ByteArray)=bs [116,114,117,101]:=rfl
  have e3:(⟨#[102,97,108,115,101]⟩:ByteArray)=bs [102,97,108,115,101]:=rfl
  have hcat:bs [102,97,108,115] ++ bs [101]=bs [102,97,108,115,101]:=by rfl
  go_enter Tryz.func103,Tryz.ntmps103
  go_wp2_with fail
  refine (lower_any [102,97,108,115] (by decide) w).mono ?_
  rintro e w1 ⟨rfl,hb1⟩
  have hlo:([102,97,108,115]:By).map loB=[102,97,108,115]:=by decide
  rw [hlo]
  go_wp2_with fail
  refine (prefix_any [102,97,108,115] [110,117,108,108] false (by decide) w1).mono ?_
  rintro e w2 ⟨rfl,hw2⟩
  subst w2
  go_wp2_with fail
  refine (prefix_any [102,97,108,115] [116,114,117,101] false (by decide) w1).mono ?_
  rintro e w2 ⟨rfl,hw2⟩
  subst w2
  go_wp2_with fail
  refine (lower_any [101] (by decide) w1).mono ?_
  rintro e w3 ⟨rfl,hb3⟩
  have hlo2:([101]:By).map loB=[101]:=by decide
  rw [hlo2]
  go_wp2_with fail
  refine (prefix_any [102,97,108,115,101] [102,97,108,115,101] true (by decide) w3).mono ?_
  rintro e w2 ⟨rfl,hw2⟩
  subst w2
  have y30:∀ (a b c:Value),([a,b,c]:List Value)[0]?=some a:=fun _ _ _=>rfl
  have y31:∀ (a b c:Value),([a,b,c]:List Value)[1]?=some b:=fun _ _ _=>rfl
  have y32:∀ (a b c:Value),([a,b,c]:List Value)[2]?=some c:=fun _ _ _=>rfl
  go_wp2_with fail
  refine bodyPost_ret (v:=.tuple #[.iface 66 (.bool false),.string (bs [102,97,108,115,101]),.bool true]) (by simp [results,Tryz.results103,go_sem]<;>rfl) rfl ⟨rfl,hb1.trans (hb3.mono hb1.size)⟩
theorem bs_append (a b:By):bs a ++ bs b=bs (a ++ b):=by
  apply ByteArray.ext
  simp [bs]
def BonPost (w w':World) (e:Ending):Prop:=(∃ v s,e=.returned (.tuple #[v,s,.bool false]))∧Below w.heap.size w w'
set_option maxRecDepth 100000 in
set_option maxHeartbeats 40000000 in
theorem bon_none (c:UInt8) (l:By) (h1:loB c≠110) (h2:loB c≠116) (h3:loB c≠102) (hl:l.length≤1000000) (w:World):Calls Tryz.prog 103 #[.string (bs (c::l))] w fun e w'=>BonPost w w' e:=by
  obtain ⟨z,hz⟩:∃ z,z=bs (c::l):=⟨_,rfl⟩
  have hzs:z.size=l.length + 1:=by rw [hz,bs_size];simp
  rw [←hz]
  by_cases h4:z.size < 4
  · clear hzs hz
    go_enter Tryz.func103,Tryz.ntmps103
    go_wp2_with fail
    have y30:∀ (a b c:Value),([a,b,c]:List Value)[0]?=some a:=fun _ _ _=>rfl
    have y31:∀ (a b c:Value),([a,b,c]:List Value)[1]?=some b:=fun _ _ _=>rfl
    have y32:∀ (a b c:Value),([a,b,c]:List Value)[2]?=some c:=fun _ _ _=>rfl
    go_wp2_with fail
    refine bodyPost_ret (v:=.tuple #[.nilIface,.string ⟨#[]⟩,.bool false]) (by simp [results,Tryz.results103,go_sem]<;>rfl) rfl ⟨⟨_,_,rfl⟩,Below.refl _ _⟩
  · obtain ⟨c2,c3,c4,r,rfl⟩:∃ c2 c3 c4 r,l=c2::c3::c4::r:=by
      match l,hzs with
      | c2::c3::c4::r,_=>exact ⟨_,_,_,_,rfl⟩
      | [],hzs=>simp at hzs;omega
      | [a],hzs=>simp at hzs;omega
      | [a,b],hzs=>simp at hzs;omega
    have hx:z.extract 0 4=bs [c,c2,c3,c4]:=by rw [hz];exact bs_lit4 rfl
    have hle4:4≤z.size:=by omega
    have e1:(⟨#[110,117,108,108]⟩:ByteArray)=bs [110,117,108,108]:=rfl
    have e2:(⟨#[116,114,117,101]⟩:ByteArray)=bs [116,114,117,101]:=rfl
    have e3:(⟨#[102,97,108,115,101]⟩:ByteArray)=bs [102,97,108,115,101]:=rfl
    have hp:∀ (x:UInt8) (t q:By),x≠loB c→(x::t).isPrefixOf (loB c::q)=false:=by
      intro x t q hx
      simp [List.isPrefixOf,hx]
    have Hp:=Lib.hid hp
    by_cases h5:z.size < 5
    · clear hzs hz hp
      go_enter Tryz.func103,Tryz.ntmps103
      go_wp2_with fail
      refine (lower_any [c,c2,c3,c4] (by simp) w).mono ?_
      rintro e w1 ⟨rfl,hb1⟩
      simp only [List.map_cons,List.map_nil]
      go_wp2_with fail
      refine (prefix_any [loB c,loB c2,loB c3,loB c4] [110,117,108,108] false (Hp.out _ _ _ (Ne.symm h1)) w1).mono ?_
      rintro e w2 ⟨rfl,hw2⟩
      subst w2
      go_wp2_with fail
      refine (prefix_any [loB c,loB c2,loB c3,loB c4] [116,114,117,101] false (Hp.out _ _ _ (Ne.symm h2)) w1).mono ?_
      rintro e w2 ⟨rfl,hw2⟩
      subst w2
      have y30:∀ (a b c:Value),([a,b,c]:List Value)[0]?=some a:=fun _ _ _=>rfl
      have y31:∀ (a b c:Value),([a,b,c]:List Value)[1]?=some b:=fun _ _ _=>rfl
      have y32:∀ (a b c:Value),([a,b,c]:List Value)[2]?=some c:=fun _ _ _=>rfl
      go_wp2_with fail
      refine bodyPost_ret (v:=.tuple #[.nilIface,.string ⟨#[]⟩,.bool false]) (by simp [results,Tryz.results103,go_sem]<;>rfl) rfl ⟨⟨_,_,rfl⟩,hb1⟩
    · obtain ⟨c5,r,rfl⟩:∃ c5 r',r=c5::r':=by
        cases r with
        | nil=>simp at hzs;omega
        | cons c5 r=>exact ⟨_,_,rfl⟩
      have hx2:z.extract 4 5=bs [c5]:=by rw [hz,bs_extract];rfl
      have hle5:5≤z.size:=by omega
      have hcat:=bs_append [loB c,loB c2,loB c3,loB c4] [loB c5]
      clear hzs hz hp
      go_enter Tryz.func103,Tryz.ntmps103
      go_wp2_with fail
      refine (lower_any [c,c2,c3,c4] (by simp) w).mono ?_
      rintro e w1 ⟨rfl,hb1⟩
      simp only [List.map_cons,List.map_nil]
      go_wp2_with fail
      refine (prefix_any [loB c,loB c2,loB c3,loB c4] [110,117,108,108] false (Hp.out _ _ _ (Ne.symm h1)) w1).mono ?_
      rintro e w2 ⟨rfl,hw2⟩
      subst w2
      go_wp2_with fail
      refine (prefix_any [loB c,loB c2,loB c3,loB c4] [116,114,117,101] false (Hp.out _ _ _ (Ne.symm h2)) w1).mono ?_
      rintro e w2 ⟨rfl,hw2⟩
      subst w2
      go_wp2_with fail
      refine (lower_any [c5] (by simp) w1).mono ?_
      rintro e w3 ⟨rfl,hb3⟩
      simp only [List.map_cons,List.map_nil]
      go_wp2_with fail
      refine (prefix_any ([loB c,loB c2,loB c3,loB c4] ++ [loB c5]) [102,97,108,115,101] false (Hp.out _ _ _ (Ne.symm h3)) w3).mono ?_
      rintro e w2 ⟨rfl,hw2⟩
      subst w2
      have y30:∀ (a b c:Value),([a,b,c]:List Value)[0]?=some a:=fun _ _ _=>rfl
      have y31:∀ (a b c:Value),([a,b,c]:List Value)[1]?=some b:=fun _ _ _=>rfl
      have y32:∀ (a b c:Value),([a,b,c]:List Value)[2]?=some c:=fun _ _ _=>rfl
      go_wp2_with fail
      refine bodyPost_ret (v:=.tuple #[.nilIface,.string ⟨#[]⟩,.bool false]) (by simp [results,Tryz.results103,go_sem]<;>rfl) rfl ⟨⟨_,_,rfl⟩,hb1.trans (hb3.mono hb1.size)⟩
end Go.Proofs.YtfkecmlmnhbmoaaGreatDoor
