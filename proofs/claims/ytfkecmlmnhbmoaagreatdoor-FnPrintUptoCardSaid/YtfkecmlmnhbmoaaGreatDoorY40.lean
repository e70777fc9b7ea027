/- The texts D10 D11 D12 of the workbench, laid together. -/
import Derived.Test.YtfkecmlmnhbmoaaGreatDoorProg
import Derived.WalkKit
import Derived.WalkLawsBesides
import Derived.WalkSpells
import Derived.BigQuiet
import Derived.BigRegion
import Derived.Deep.QuietTactic
import Derived.Deep.RegionHeld3
import Derived.Deep.LoopGhost
import Derived.StillTailTactics
import Derived.Lib.Hide
import Derived.Laws.EntriesVeiled
import Derived.Test.YtfkecmlmnhbmoaaGreatDoorY31
import Derived.Test.YtfkecmlmnhbmoaaGreatDoorY34
import Derived.Test.YtfkecmlmnhbmoaaGreatDoorY35
import Derived.Test.YtfkecmlmnhbmoaaGreatDoorY38
import Derived.Test.YtfkecmlmnhbmoaaGreatDoorY39
set_option linter.unusedVariables false
set_option linter.unusedSimpArgs false
namespace Go.Proofs.YtfkecmlmnhbmoaaGreatDoor
open Go Go.RowKit
open Go.Maps
def LfPost (w w':World) (Q:PV→Prop) (e:Ending):Prop:=∃ (x:PV) (b:Bool),e=.returned (.tuple #[valOf x nilS nilS,.bool b])∧w.grownBy w' none∧(b=true→Q x)
section
variable (i g:Int) (r:Nat) (z:ByteArray) (ko vo:Option Addr) (kn kc vn vc:Nat) (w:World)
set_option maxRecDepth 100000 in
set_option maxHeartbeats 40000000 in
theorem fo_null:Calls Tryz.prog 18 #[.agg #[.int .i64 0,.int .i64 i,.int .i64 g,.float .f64 r,.string z,.slice ko kn kc,.slice vo vn vc]] w fun e w'=>LfPost w w' (fun x=>x=.null) e:=by
 obtain ⟨hg0,hb0,hz0⟩:=fr_world w (.cells #[.int .i64 0,.int .i64 i,.int .i64 g,.float .f64 r,.string z,.slice ko kn kc,.slice vo vn vc] 26)
 unfold Z30 at *
 go_enter Tryz.func18,Tryz.ntmps18
 go_wp2_with fail
 refine (only_all _ _ _ _ _ _ _ _ _ _ _ _).mono ?_
 rintro e w1 ⟨⟨b,rfl⟩,hg1⟩
 have hb1:=(hg1.block _ (Array.getElem?_eq_some_iff.1 hb0).1 (by simp)).trans hb0
 have hz1:=(hg1.block _ (Array.getElem?_eq_some_iff.1 hz0).1 (by simp)).trans hz0
 obtain ⟨y0,y1,y2,y3,y4,y5,y6,yf⟩:=cells7 hb1
 obtain ⟨z0,z1,z2,z3,z4,z5,z6,zf⟩:=cells7 hz1
 have HZ:=Lib.hid hz1
 have HG:=Lib.hid (hg0.trans hg1)
 clear hg0 hb0 hz0 hg1 hb1 hz1
 cases b
 ·go_wp2_with fail
  refine fr_ret rfl rfl HZ.out ?_
  intro w' _ _ hgr
  exact ⟨.null,false,rfl,hgr _ _ HG.out (by omega),fun h=>by cases h⟩
 ·go_wp2_with fail
  refine fr_ret rfl rfl HZ.out ?_
  intro w' _ _ hgr
  exact ⟨.null,true,rfl,hgr _ _ HG.out (by omega),fun _=>rfl⟩
set_option maxRecDepth 100000 in
set_option maxHeartbeats 40000000 in
theorem fo_bool:Calls Tryz.prog 18 #[.agg #[.int .i64 1,.int .i64 i,.int .i64 g,.float .f64 r,.string z,.slice ko kn kc,.slice vo vn vc]] w fun e w'=>LfPost w w' (fun x=>x=.bool i∧(i=0∨i=1)) e:=by
 obtain ⟨hg0,hb0,hz0⟩:=fr_world w (.cells #[.int .i64 1,.int .i64 i,.int .i64 g,.float .f64 r,.string z,.slice ko kn kc,.slice vo vn vc] 26)
 unfold Z30 at *
 go_enter Tryz.func18,Tryz.ntmps18
 go_wp2_with fail
 refine (only_all _ _ _ _ _ _ _ _ _ _ _ _).mono ?_
 rintro e w1 ⟨⟨b,rfl⟩,hg1⟩
 have hb1:=(hg1.block _ (Array.getElem?_eq_some_iff.1 hb0).1 (by simp)).trans hb0
 have hz1:=(hg1.block _ (Array.getElem?_eq_some_iff.1 hz0).1 (by simp)).trans hz0
 obtain ⟨y0,y1,y2,y3,y4,y5,y6,yf⟩:=cells7 hb1
 obtain ⟨z0,z1,z2,z3,z4,z5,z6,zf⟩:=cells7 hz1
 have HZ:=Lib.hid hz1
 have HG:=Lib.hid (hg0.trans hg1)
 clear hg0 hb0 hz0 hg1 hb1 hz1
 cases b
 ·go_wp2_with fail
  refine fr_ret rfl rfl HZ.out ?_
  intro w' _ _ hgr
  exact ⟨.null,false,rfl,hgr _ _ HG.out (by omega),fun h=>by cases h⟩
 ·rcases Bool.eq_false_or_eq_true (i == 0) with h0 | h0
  ·go_wp2_with fail
   go_region
   go_wp2_with fail
   refine fr_retd rfl rfl HZ.out ?_
   intro w' hgr
   exact ⟨.bool i,true,rfl,hgr _ _ HG.out (by omega),fun _=>⟨rfl,.inl (by simpa using h0)⟩⟩
  ·rcases Bool.eq_false_or_eq_true (i == 1) with h1 | h1
   all_goals
    go_wp2_with fail
    go_region
    go_wp2_with fail
    refine fr_retd rfl rfl HZ.out ?_
    intro w' hgr
    first
     | exact ⟨.bool i,true,rfl,hgr _ _ HG.out (by omega),fun _=>⟨rfl,.inr (by simpa using h1)⟩⟩
     | exact ⟨.bool i,false,rfl,hgr _ _ HG.out (by omega),fun h=>by cases h⟩
set_option maxRecDepth 100000 in
set_option maxHeartbeats 40000000 in
theorem fo_int:Calls Tryz.prog 18 #[.agg #[.int .i64 2,.int .i64 i,.int .i64 g,.float .f64 r,.string z,.slice ko kn kc,.slice vo vn vc]] w fun e w'=>LfPost w w' (fun x=>x=.int i∧-2147483648≤i∧i < 2147483648) e:=by
 obtain ⟨hg0,hb0,hz0⟩:=fr_world w (.cells #[.int .i64 2,.int .i64 i,.int .i64 g,.float .f64 r,.string z,.slice ko kn kc,.slice vo vn vc] 26)
 unfold Z30 at *
 go_enter Tryz.func18,Tryz.ntmps18
 go_wp2_with fail
 refine (only_all _ _ _ _ _ _ _ _ _ _ _ _).mono ?_
 rintro e w1 ⟨⟨b,rfl⟩,hg1⟩
 have hb1:=(hg1.block _ (Array.getElem?_eq_some_iff.1 hb0).1 (by simp)).trans hb0
 have hz1:=(hg1.block _ (Array.getElem?_eq_some_iff.1 hz0).1 (by simp)).trans hz0
 obtain ⟨y0,y1,y2,y3,y4,y5,y6,yf⟩:=cells7 hb1
 obtain ⟨z0,z1,z2,z3,z4,z5,z6,zf⟩:=cells7 hz1
 have HZ:=Lib.hid hz1
 have HG:=Lib.hid (hg0.trans hg1)
 clear hg0 hb0 hz0 hg1 hb1 hz1
 cases b
 ·go_wp2_with fail
  refine fr_ret rfl rfl HZ.out ?_
  intro w' _ _ hgr
  exact ⟨.null,false,rfl,hgr _ _ HG.out (by omega),fun h=>by cases h⟩
 ·rcases Bool.eq_false_or_eq_true (decide (-2147483648≤i)) with h0 | h0
  ·go_wp2_with fail
   go_region
   go_wp2_with fail
   refine fr_retd rfl rfl HZ.out ?_
   intro w' hgr
   exact ⟨.int i,decide (i < 2147483648),rfl,hgr _ _ HG.out (by omega),fun h=>⟨rfl,of_decide_eq_true h0,of_decide_eq_true h⟩⟩
  ·go_wp2_with fail
   go_region
   go_wp2_with fail
   refine fr_retd rfl rfl HZ.out ?_
   intro w' hgr
   exact ⟨.int i,false,rfl,hgr _ _ HG.out (by omega),fun h=>by cases h⟩
def noKind (k:Int):Prop:=(k == 0)=false∧(k == 1)=false∧(k == 2)=false∧(k == 3)=false∧(k == 4)=false∧(k == 5)=false∧(k == 6)=false∧(k == 9)=false∧(k == 7)=false∧(k == 8)=false
set_option maxRecDepth 100000 in
set_option maxHeartbeats 40000000 in
theorem fo_none (k:Int) (hk:noKind k):Calls Tryz.prog 18 #[.agg #[.int .i64 k,.int .i64 i,.int .i64 g,.float .f64 r,.string z,.slice ko kn kc,.slice vo vn vc]] w fun e w'=>LfPost w w' (fun _=>False) e:=by
 obtain ⟨k0,k1,k2,k3,k4,k5,k6,k9,k7,k8⟩:=hk
 obtain ⟨hg0,hb0,hz0⟩:=fr_world w (.cells #[.int .i64 k,.int .i64 i,.int .i64 g,.float .f64 r,.string z,.slice ko kn kc,.slice vo vn vc] 26)
 unfold Z30 at *
 go_enter Tryz.func18,Tryz.ntmps18
 go_wp2_with fail
 refine (only_all _ _ _ _ _ _ _ _ _ _ _ _).mono ?_
 rintro e w1 ⟨⟨b,rfl⟩,hg1⟩
 have hb1:=(hg1.block _ (Array.getElem?_eq_some_iff.1 hb0).1 (by simp)).trans hb0
 have hz1:=(hg1.block _ (Array.getElem?_eq_some_iff.1 hz0).1 (by simp)).trans hz0
 obtain ⟨y0,y1,y2,y3,y4,y5,y6,yf⟩:=cells7 hb1
 obtain ⟨z0,z1,z2,z3,z4,z5,z6,zf⟩:=cells7 hz1
 have HZ:=Lib.hid hz1
 have HG:=Lib.hid (hg0.trans hg1)
 clear hg0 hb0 hz0 hg1 hb1 hz1
 cases b
 ·go_wp2_with fail
  refine fr_ret rfl rfl HZ.out ?_
  intro w' _ _ hgr
  exact ⟨.null,false,rfl,hgr _ _ HG.out (by omega),fun h=>by cases h⟩
 ·go_wp2_with fail
  refine fr_ret rfl rfl HZ.out ?_
  intro w' _ _ hgr
  exact ⟨.null,false,rfl,hgr _ _ HG.out (by omega),fun h=>by cases h⟩
set_option maxRecDepth 100000 in
set_option maxHeartbeats 40000000 in
theorem fo_ref:Calls Tryz.prog 18 #[.agg #[.int .i64 9,.int .i64 i,.int .i64 g,.float .f64 r,.string z,.slice ko kn kc,.slice vo vn vc]] w fun e w'=>LfPost w w' (fun x=>x=.ref i g∧0 < i∧i < 2147483648∧0≤g∧g≤65535) e:=by
 obtain ⟨hg0,hb0,hz0⟩:=fr_world w (.cells #[.int .i64 9,.int .i64 i,.int .i64 g,.float .f64 r,.string z,.slice ko kn kc,.slice vo vn vc] 26)
 unfold Z30 at *
 go_enter Tryz.func18,Tryz.ntmps18
 go_wp2_with fail
 refine (only_all _ _ _ _ _ _ _ _ _ _ _ _).mono ?_
 rintro e w1 ⟨⟨b,rfl⟩,hg1⟩
 have hb1:=(hg1.block _ (Array.getElem?_eq_some_iff.1 hb0).1 (by simp)).trans hb0
 have hz1:=(hg1.block _ (Array.getElem?_eq_some_iff.1 hz0).1 (by simp)).trans hz0
 obtain ⟨y0,y1,y2,y3,y4,y5,y6,yf⟩:=cells7 hb1
 obtain ⟨z0,z1,z2,z3,z4,z5,z6,zf⟩:=cells7 hz1
 have HZ:=Lib.hid hz1
 have HG:=Lib.hid (hg0.trans hg1)
 clear hg0 hb0 hz0 hg1 hb1 hz1
 cases b
 ·go_wp2_with fail
  refine fr_ret rfl rfl HZ.out ?_
  intro w' _ _ hgr
  exact ⟨.null,false,rfl,hgr _ _ HG.out (by omega),fun h=>by cases h⟩
 ·rcases Bool.eq_false_or_eq_true (decide (0 < i)) with h0 | h0
  rotate_left
  ·go_wp2_with fail
   go_region
   go_wp2_with fail
   refine fr_retd rfl rfl HZ.out ?_
   intro w' hgr
   exact ⟨.ref i g,false,rfl,hgr _ _ HG.out (by omega),fun h=>by cases h⟩
  ·rcases Bool.eq_false_or_eq_true (decide (i < 2147483648)) with h1 | h1
   rotate_left
   ·go_wp2_with fail
    go_region
    go_wp2_with fail
    refine fr_retd rfl rfl HZ.out ?_
    intro w' hgr
    exact ⟨.ref i g,false,rfl,hgr _ _ HG.out (by omega),fun h=>by cases h⟩
   ·rcases Bool.eq_false_or_eq_true (decide (0≤g)) with h2 | h2
    rotate_left
    ·go_wp2_with fail
     go_region
     go_wp2_with fail
     refine fr_retd rfl rfl HZ.out ?_
     intro w' hgr
     exact ⟨.ref i g,false,rfl,hgr _ _ HG.out (by omega),fun h=>by cases h⟩
    ·go_wp2_with fail
     go_region
     go_wp2_with fail
     refine fr_retd rfl rfl HZ.out ?_
     intro w' hgr
     exact ⟨.ref i g,decide (g≤65535),rfl,hgr _ _ HG.out (by omega),fun h=>⟨rfl,of_decide_eq_true h0,of_decide_eq_true h1,of_decide_eq_true h2,of_decide_eq_true h⟩⟩
end
end Go.Proofs.YtfkecmlmnhbmoaaGreatDoor
namespace Go.Proofs.YtfkecmlmnhbmoaaGreatDoor
open Go Go.RowKit
open Go.Maps
section
variable (i g:Int) (r:Nat) (ko vo:Option Addr) (kn kc vn vc:Nat) (w:World)
set_option maxRecDepth 100000 in
set_option maxHeartbeats 40000000 in
theorem fo_real (z:ByteArray) (pf:By→Nat) (ff:Nat→By) (W0:World) (hpf:PFC pf W0) (hff:FfAll ff W0) (hr:r < 18446744073709551616) (hE:Env W0 w):Calls Tryz.prog 18 #[.agg #[.int .i64 3,.int .i64 i,.int .i64 g,.float .f64 r,.string z,.slice ko kn kc,.slice vo vn vc]] w fun e w'=>LfPost w w' (fun x=>x=.real r∧numOk (ff r)∧R12 pf ff r∧r % 9223372036854775808 < 4816244402031689728) e:=by
 have htw:=fun (w2:World) (hg:w.grownBy w2 none)=>twelve_any pf ff W0 hpf hff r hr w2 (hE.grown0 hg)
 have Htw:=Lib.hid htw
 clear htw hpf hff hE
 obtain ⟨hg0,hb0,hz0⟩:=fr_world w (.cells #[.int .i64 3,.int .i64 i,.int .i64 g,.float .f64 r,.string z,.slice ko kn kc,.slice vo vn vc] 26)
 unfold Z30 at *
 go_enter Tryz.func18,Tryz.ntmps18
 go_wp2_with fail
 refine (only_all _ _ _ _ _ _ _ _ _ _ _ _).mono ?_
 rintro e w1 ⟨⟨b,rfl⟩,hg1⟩
 have hb1:=(hg1.block _ (Array.getElem?_eq_some_iff.1 hb0).1 (by simp)).trans hb0
 have hz1:=(hg1.block _ (Array.getElem?_eq_some_iff.1 hz0).1 (by simp)).trans hz0
 obtain ⟨y0,y1,y2,y3,y4,y5,y6,yf⟩:=cells7 hb1
 obtain ⟨z0,z1,z2,z3,z4,z5,z6,zf⟩:=cells7 hz1
 have HZ:=Lib.hid hz1
 have HBk:=Lib.hid hb1
 have HG:=Lib.hid (hg0.trans hg1)
 clear hg0 hb0 hz0 hg1 hb1 hz1
 cases b
 ·go_wp2_with fail
  refine fr_ret rfl rfl HZ.out ?_
  intro w' _ _ hgr
  exact ⟨.null,false,rfl,hgr _ _ HG.out (by omega),fun h=>by cases h⟩
 ·go_wp2_with fail
  go_region_law
   (first
    | (go_simp;go_at_call 31;refine (Htw.out _ (by first | exact HG.out | exact gr_drew HG.out | exact gr_drewN HG.out _)).mono ?_;rintro e w2 ⟨b,rfl,hg2,hb2⟩;have Hb2:=Lib.hid hb2;clear hb2;have Hgw:=Lib.hid (show w1.grownBy w2 none from by first | exact hg2 | exact (gr_drew (World.grownBy.refl _ _)).trans hg2 | exact (gr_drewN (World.grownBy.refl _ _) _).trans hg2);have hz2:=(Hgw.out.block _ (Array.getElem?_eq_some_iff.1 HZ.out).1 (by simp)).trans HZ.out;have hbk2:=(Hgw.out.block _ (Array.getElem?_eq_some_iff.1 HBk.out).1 (by simp)).trans HBk.out;have HZ2:=Lib.hid hz2;have HG2:=Lib.hid (HG.out.trans Hgw.out);obtain ⟨x0,x1,x2,x3,x4,x5,x6,xf⟩:=cells7 hz2;obtain ⟨j0,j1,j2,j3,j4,j5,j6,jf⟩:=cells7 hbk2;clear hg2 hz2 hbk2))
  all_goals
   go_wp2_with fail
   refine fr_ret rfl rfl HZ2.out ?_
   intro w' _ _ hgr
   exact ⟨.real r,b,rfl,hgr _ _ HG2.out (by omega),fun h=>⟨rfl,Hb2.out h⟩⟩
set_option maxRecDepth 100000 in
set_option maxHeartbeats 40000000 in
theorem fo_lit (s:By) (hl:s.length≤1000000):Calls Tryz.prog 18 #[.agg #[.int .i64 4,.int .i64 i,.int .i64 g,.float .f64 r,.string (bs s),.slice ko kn kc,.slice vo vn vc]] w fun e w'=>LfPost w w' (fun x=>∃ t,x=.str t∧litF (40::(s ++ [41])) 0 []=some (t,[])) e:=by
 have hlb:=fun w2=>litbytes_all s (by omega) w2
 have Hlb:=Lib.hid hlb
 clear hlb
 obtain ⟨z,hz⟩:∃ z,z=bs s:=⟨_,rfl⟩
 rw [←hz] at Hlb ⊢
 clear hz
 obtain ⟨hg0,hb0,hz0⟩:=fr_world w (.cells #[.int .i64 4,.int .i64 i,.int .i64 g,.float .f64 r,.string z,.slice ko kn kc,.slice vo vn vc] 26)
 unfold Z30 at *
 go_enter Tryz.func18,Tryz.ntmps18
 go_wp2_with fail
 refine (only_all _ _ _ _ _ _ _ _ _ _ _ _).mono ?_
 rintro e w1 ⟨⟨b,rfl⟩,hg1⟩
 have hb1:=(hg1.block _ (Array.getElem?_eq_some_iff.1 hb0).1 (by simp)).trans hb0
 have hz1:=(hg1.block _ (Array.getElem?_eq_some_iff.1 hz0).1 (by simp)).trans hz0
 obtain ⟨y0,y1,y2,y3,y4,y5,y6,yf⟩:=cells7 hb1
 obtain ⟨z0,z1,z2,z3,z4,z5,z6,zf⟩:=cells7 hz1
 have HZ:=Lib.hid hz1
 have HBk:=Lib.hid hb1
 have HG:=Lib.hid (hg0.trans hg1)
 clear hg0 hb0 hz0 hg1 hb1 hz1
 cases b
 ·go_wp2_with fail
  refine fr_ret rfl rfl HZ.out ?_
  intro w' _ _ hgr
  exact ⟨.null,false,rfl,hgr _ _ HG.out (by omega),fun h=>by cases h⟩
 ·go_wp2_with fail
  refine (Hlb.out _).mono ?_
  rintro e w2 ⟨t,b,rfl,hg2,hb2⟩
  have Hb2:=Lib.hid hb2
  have Hbt:=Lib.hid (show bs t=(⟨t.toArray⟩:ByteArray) from rfl)
  clear hb2
  have Hgw:=Lib.hid (show w1.grownBy w2 none from by first | exact hg2 | exact (gr_drew (World.grownBy.refl _ _)).trans hg2 | exact (gr_drewN (World.grownBy.refl _ _) _).trans hg2);have hz2:=(Hgw.out.block _ (Array.getElem?_eq_some_iff.1 HZ.out).1 (by simp)).trans HZ.out;have hbk2:=(Hgw.out.block _ (Array.getElem?_eq_some_iff.1 HBk.out).1 (by simp)).trans HBk.out;have HZ2:=Lib.hid hz2;have HG2:=Lib.hid (HG.out.trans Hgw.out);obtain ⟨x0,x1,x2,x3,x4,x5,x6,xf⟩:=cells7 hz2;obtain ⟨j0,j1,j2,j3,j4,j5,j6,jf⟩:=cells7 hbk2;clear hg2 hz2 hbk2
  clear y0 y1 y2 y3 y4 y5 y6 yf z0 z1 z2 z3 z4 z5 z6 zf
  go_wp2_with fail
  refine fr_ret rfl rfl HZ2.out ?_
  intro w' _ _ hgr
  exact ⟨.str t,b,rfl,hgr _ _ HG2.out (by omega),fun h=>⟨t,rfl,Hb2.out h⟩⟩
set_option maxRecDepth 100000 in
set_option maxHeartbeats 40000000 in
theorem fo_hexl (s:By) (hl:s.length≤1000000):Calls Tryz.prog 18 #[.agg #[.int .i64 5,.int .i64 i,.int .i64 g,.float .f64 r,.string (bs s),.slice ko kn kc,.slice vo vn vc]] w fun e w'=>LfPost w w' (fun x=>x=.str (hexT s)∧∀ c∈s,0≤hexVal (c.toNat:Int)) e:=by
 have hlb:=fun w2=>hexbytes_all s (by omega) w2
 have Hlb:=Lib.hid hlb
 clear hlb
 obtain ⟨z,hz⟩:∃ z,z=bs s:=⟨_,rfl⟩
 rw [←hz] at Hlb ⊢
 clear hz
 obtain ⟨hg0,hb0,hz0⟩:=fr_world w (.cells #[.int .i64 5,.int .i64 i,.int .i64 g,.float .f64 r,.string z,.slice ko kn kc,.slice vo vn vc] 26)
 unfold Z30 at *
 go_enter Tryz.func18,Tryz.ntmps18
 go_wp2_with fail
 refine (only_all _ _ _ _ _ _ _ _ _ _ _ _).mono ?_
 rintro e w1 ⟨⟨b,rfl⟩,hg1⟩
 have hb1:=(hg1.block _ (Array.getElem?_eq_some_iff.1 hb0).1 (by simp)).trans hb0
 have hz1:=(hg1.block _ (Array.getElem?_eq_some_iff.1 hz0).1 (by simp)).trans hz0
 obtain ⟨y0,y1,y2,y3,y4,y5,y6,yf⟩:=cells7 hb1
 obtain ⟨z0,z1,z2,z3,z4,z5,z6,zf⟩:=cells7 hz1
 have HZ:=Lib.hid hz1
 have HBk:=Lib.hid hb1
 have HG:=Lib.hid (hg0.trans hg1)
 clear hg0 hb0 hz0 hg1 hb1 hz1
 cases b
 ·go_wp2_with fail
  refine fr_ret rfl rfl HZ.out ?_
  intro w' _ _ hgr
  exact ⟨.null,false,rfl,hgr _ _ HG.out (by omega),fun h=>by cases h⟩
 ·go_wp2_with fail
  refine (Hlb.out _).mono ?_
  rintro e w2 ⟨t,b,rfl,hg2,hb2⟩
  have Hb2:=Lib.hid hb2
  clear hb2
  have Hgw:=Lib.hid (show w1.grownBy w2 none from by first | exact hg2 | exact (gr_drew (World.grownBy.refl _ _)).trans hg2 | exact (gr_drewN (World.grownBy.refl _ _) _).trans hg2);have hz2:=(Hgw.out.block _ (Array.getElem?_eq_some_iff.1 HZ.out).1 (by simp)).trans HZ.out;have hbk2:=(Hgw.out.block _ (Array.getElem?_eq_some_iff.1 HBk.out).1 (by simp)).trans HBk.out;have HZ2:=Lib.hid hz2;have HG2:=Lib.hid (HG.out.trans Hgw.out);obtain ⟨x0,x1,x2,x3,x4,x5,x6,xf⟩:=cells7 hz2;obtain ⟨j0,j1,j2,j3,j4,j5,j6,jf⟩:=cells7 hbk2;clear hg2 hz2 hbk2
  clear y0 y1 y2 y3 y4 y5 y6 yf z0 z1 z2 z3 z4 z5 z6 zf
  go_wp2_with fail
  refine fr_ret rfl rfl HZ2.out ?_
  intro w' _ _ hgr
  exact ⟨.str t,b,rfl,hgr _ _ HG2.out (by omega),fun h=>⟨by rw [(Hb2.out h).1],(Hb2.out h).2⟩⟩
set_option maxRecDepth 100000 in
set_option maxHeartbeats 40000000 in
theorem fo_name (s:By) (hl:s.length≤1000000):Calls Tryz.prog 18 #[.agg #[.int .i64 6,.int .i64 i,.int .i64 g,.float .f64 r,.string (bs s),.slice ko kn kc,.slice vo vn vc]] w fun e w'=>LfPost w w' (fun x=>x=.name s∧∀ c∈s,(c.toNat:Int)≠0) e:=by
 have hlb:=fun w2=>nameable_all s (by omega) w2
 have Hlb:=Lib.hid hlb
 clear hlb
 have Hbt:=Lib.hid (show bs s=(⟨s.toArray⟩:ByteArray) from rfl)
 obtain ⟨z,hz⟩:∃ z,z=bs s:=⟨_,rfl⟩
 rw [←hz] at Hlb Hbt ⊢
 clear hz
 obtain ⟨hg0,hb0,hz0⟩:=fr_world w (.cells #[.int .i64 6,.int .i64 i,.int .i64 g,.float .f64 r,.string z,.slice ko kn kc,.slice vo vn vc] 26)
 unfold Z30 at *
 go_enter Tryz.func18,Tryz.ntmps18
 go_wp2_with fail
 refine (only_all _ _ _ _ _ _ _ _ _ _ _ _).mono ?_
 rintro e w1 ⟨⟨b,rfl⟩,hg1⟩
 have hb1:=(hg1.block _ (Array.getElem?_eq_some_iff.1 hb0).1 (by simp)).trans hb0
 have hz1:=(hg1.block _ (Array.getElem?_eq_some_iff.1 hz0).1 (by simp)).trans hz0
 obtain ⟨y0,y1,y2,y3,y4,y5,y6,yf⟩:=cells7 hb1
 obtain ⟨z0,z1,z2,z3,z4,z5,z6,zf⟩:=cells7 hz1
 have HZ:=Lib.hid hz1
 have HBk:=Lib.hid hb1
 have HG:=Lib.hid (hg0.trans hg1)
 clear hg0 hb0 hz0 hg1 hb1 hz1
 cases b
 ·go_wp2_with fail
  refine fr_ret rfl rfl HZ.out ?_
  intro w' _ _ hgr
  exact ⟨.null,false,rfl,hgr _ _ HG.out (by omega),fun h=>by cases h⟩
 ·go_wp2_with fail
  go_region_law
   (first
    | (go_simp;go_at_call 35;refine (Hlb.out _).mono ?_;rintro e w2 ⟨b,rfl,hw2,hb2⟩;subst w2;have Hb2:=Lib.hid hb2;clear hb2))
  all_goals
   go_wp2_with fail
   refine fr_retd rfl rfl HZ.out ?_
   intro w' hgr
   exact ⟨.name s,b,(by unfold valOf pvKind pvInt pvGen pvReal pvText;rw [←Hbt.out];rfl),hgr _ _ HG.out (by omega),fun h=>⟨rfl,Hb2.out h⟩⟩
end
end Go.Proofs.YtfkecmlmnhbmoaaGreatDoor
namespace Go.Proofs.YtfkecmlmnhbmoaaGreatDoor
open Go Go.RowKit
open Go.Maps
mutual
def wfB:OB→Prop
 | .mk _ _ _ r _ _ kids=>r < 18446744073709551616∧wfBs kids
def wfBs:List OB→Prop
 | []=>True
 | o::os=>wfB o∧wfBs os
end
theorem wfBs_mem {x:OB} : ∀ {xs:List OB},wfBs xs→x∈xs→wfB x
 | [],_,h=>by simp at h
 | y::ys,hw,h=>by
  simp only [wfBs] at hw
  rcases List.mem_cons.1 h with rfl | h
  ·exact hw.1
  ·exact wfBs_mem hw.2 h
mutual
def srP:PO→Prop
 | .arr kids=>srPs kids
 | .dict keys kids=>keys.Pairwise (· < ·)∧srPs kids
 | _=>True
def srPs:List PO→Prop
 | []=>True
 | p::ps=>srP p∧srPs ps
end
def okS (ff:Nat→By) (R:Nat→Prop) (p:PO):Prop:=okR ff R p∧srP p
def okSs (ff:Nat→By) (R:Nat→Prop) (ps:List PO):Prop:=okRs ff R ps∧srPs ps
theorem okSs_nil (ff:Nat→By) (R:Nat→Prop):okSs ff R []:=⟨by simp [okRs],by simp [srPs]⟩
def RR (pf:By→Nat) (ff:Nat→By) (x:Nat):Prop:=R12 pf ff x∧x < 18446744073709551616∧x % 9223372036854775808 < 4816244402031689728
def FoPost (pf:By→Nat) (ff:Nat→By) (S:Nat→Prop) (w w':World) (o:OB) (e:Ending):Prop :=
 ∃ (v:Value) (b:Bool),e=.returned (.tuple #[v,.bool b])∧Shape7 v∧w.grownBy w' none ∧
  (b=true→∃ (p:PO) (ks vs:Value) (S':Nat→Prop),Img p o∧okS ff (RR pf ff) p∧v=valOf (valP p) ks vs∧IsV S' w' (valP p) ks vs∧(∀ k,S' k→(S k∨w.heap.size≤k)∧k < w'.heap.size))
def FoC (pf:By→Nat) (ff:Nat→By) (W0:World) (o:OB):Prop:=∀ (S:Nat→Prop) (w:World) (ks vs:Value),bkB o≤1048576→fwB o≤20000→wfB o→IsB S w o ks vs→(∀ k,S k→k < w.heap.size)→Env W0 w →
 Calls Tryz.prog 18 #[obV o ks vs] w fun e w'=>FoPost pf ff S w w' o e
structure FkJ (ff:Nat→By) (R:Nat→Prop) (w wr:World) (S:Nat→Prop) (i:Nat) (kids:List OB) (kk:Int) (ksv:Value) (xobj:Obj) (so:Option Addr) (sn sc:Nat) (cells:List Value) (S2:Nat→Prop) (ps:List PO):Prop where
 vcell:wr.heap[w.heap.size]?=some (.cells #[.int .i64 kk,.int .i64 0,.int .i64 0,.float .f64 0,.string ⟨#[]⟩,ksv,.slice so sn sc] 30 (0,0))
 xcell:wr.heap[w.heap.size + 1]?=some xobj
 res:wr.heap[w.heap.size + 1 + 1]?=some Z30
 row:wr.ownsRow (w.heap.size + 3) 30 7 (.slice so sn sc) i cells
 objs:IsVs S2 wr (valPs ps) cells
 img:Imgs ps (kids.take i)
 ok:okSs ff R ps
 bnd:∀ k,S2 k→(S k∨w.heap.size + 3≤k)∧k < wr.heap.size∧(Value.slice so sn sc).ownBlock≠some k
 grow:w.grownBy wr none
set_option maxRecDepth 100000 in
set_option maxHeartbeats 40000000 in
theorem fk_ret {w3:World} {B:Nat} {a0 a1 a2 a3 a4 a5 a6 v0 v1 v2 v3 v4 v5 v6 u3:Value} {tmps:Array Value} {R:Ending→World→Prop} (h2:tmps.getD 4 undef=.pointer (some ⟨B,0,none⟩)) (h3:tmps.getD 5 undef=u3)
  (hz:w3.heap[B]?=some (.cells #[a0,a1,a2,a3,a4,a5,a6] 30 (0,0)))
  (hR:∀ w',(∀ k,k≠B→w'.heap[k]?=w3.heap[k]?)→w'.heap.size=w3.heap.size→(∀ w0 r,World.grownBy w0 w3 r→w0.heap.size≤B→World.grownBy w0 w' r)→R (.returned (.tuple #[.agg #[v0,v1,v2,v3,v4,v5,v6],u3])) w'):bodyPost Tryz.prog Tryz.f36 R Exit.ret { tmps:=tmps,defers:=[] } (set7 w3 B v0 v1 v2 v3 v4 v5 v6):=by
 have hz4:=set7_at hz v0 v1 v2 v3 v4 v5 v6
 have hR4:=hR _ (fun k hk=>set7_other w3 B k v0 v1 v2 v3 v4 v5 v6 hk) (set7_size w3 B v0 v1 v2 v3 v4 v5 v6) (fun w0 r hg hB=>set7_gr hg hB v0 v1 v2 v3 v4 v5 v6)
 generalize set7 w3 B v0 v1 v2 v3 v4 v5 v6=w4 at *
 obtain ⟨y0,y1,y2,y3,y4,y5,y6,yf⟩:=cells7 hz4
 simp only [Array.getD_eq_getD_getElem?] at h2 h3
 exact bodyPost_ret (v:=.tuple #[.agg #[v0,v1,v2,v3,v4,v5,v6],u3]) (by simp [results,Tryz.results36,go_sem,h2,h3,y0,y1,y2,y3,y4,y5,y6]) rfl hR4
set_option maxRecDepth 100000 in
set_option maxHeartbeats 40000000 in
theorem fk_reta {w3:World} {B:Nat} {a0 a1 a2 a3 a4 a5 a6 v0 v1 v2 v3 v4 v5 v6 u3:Value} {o:Obj} {tmps:Array Value} {R:Ending→World→Prop} (h2:tmps.getD 4 undef=.pointer (some ⟨B,0,none⟩)) (h3:tmps.getD 5 undef=u3)
  (hz:w3.heap[B]?=some (.cells #[a0,a1,a2,a3,a4,a5,a6] 30 (0,0)))
  (hR:∀ w',(∀ w0 r,World.grownBy w0 w3 r→w0.heap.size≤B→World.grownBy w0 w' r)→R (.returned (.tuple #[.agg #[v0,v1,v2,v3,v4,v5,v6],u3])) w'):bodyPost Tryz.prog Tryz.f36 R Exit.ret { tmps:=tmps,defers:=[] } ((set7 w3 B v0 v1 v2 v3 v4 v5 v6).alloc o):=by
 have hz4:=set7_a hz (Array.getElem?_eq_some_iff.1 hz).1 v0 v1 v2 v3 v4 v5 v6 o
 have hR4:=hR _ (fun w0 r hg hB=>set7_ag hg hB v0 v1 v2 v3 v4 v5 v6 o)
 generalize (set7 w3 B v0 v1 v2 v3 v4 v5 v6).alloc o=w4 at *
 obtain ⟨y0,y1,y2,y3,y4,y5,y6,yf⟩:=cells7 hz4
 simp only [Array.getD_eq_getD_getElem?] at h2 h3
 exact bodyPost_ret (v:=.tuple #[.agg #[v0,v1,v2,v3,v4,v5,v6],u3]) (by simp [results,Tryz.results36,go_sem,h2,h3,y0,y1,y2,y3,y4,y5,y6]) rfl hR4
def FkPost (pf:By→Nat) (ff:Nat→By) (S:Nat→Prop) (w w':World) (kids:List OB) (kk:Int) (ksv:Value) (e:Ending):Prop :=
 ∃ (v:Value) (b:Bool),e=.returned (.tuple #[v,.bool b])∧Shape7 v∧w.grownBy w' none ∧
  (b=true→∃ (ps:List PO) (vs:Value) (cells:List Value) (S':Nat→Prop),Imgs ps kids∧okSs ff (RR pf ff) ps∧v=.agg #[.int .i64 kk,.int .i64 0,.int .i64 0,.float .f64 0,.string ⟨#[]⟩,ksv,vs] ∧
   SlAt S' w' vs 7 (valPs ps).length cells∧IsVs S' w' (valPs ps) cells∧(∀ k,S' k→(S k∨w.heap.size≤k)∧k < w'.heap.size))
theorem okRs_snoc {ff:Nat→By} {R:Nat→Prop} : ∀ {ps:List PO} {p:PO},okRs ff R ps→okR ff R p→okRs ff R (ps ++ [p])
 | [],p,_,h=>by simp only [List.nil_append,okRs];exact ⟨h,trivial⟩
 | q::ps,p,hs,h=>by simp only [List.cons_append,okRs] at hs ⊢;exact ⟨hs.1,okRs_snoc hs.2 h⟩
theorem srPs_snoc:∀ {ps:List PO} {p:PO},srPs ps→srP p→srPs (ps ++ [p])
 | [],p,_,h=>by simp only [List.nil_append,srPs];exact ⟨h,trivial⟩
 | q::ps,p,hs,h=>by simp only [List.cons_append,srPs] at hs ⊢;exact ⟨hs.1,srPs_snoc hs.2 h⟩
theorem okSs_snoc {ff:Nat→By} {R:Nat→Prop} {ps:List PO} {p:PO} (h:okSs ff R ps) (hp:okS ff R p):okSs ff R (ps ++ [p]):=⟨okRs_snoc h.1 hp.1,srPs_snoc h.2 hp.2⟩
set_option maxRecDepth 100000 in
set_option maxHeartbeats 40000000 in
theorem fk_any (pf:By→Nat) (ff:Nat→By) (W0:World) (kids:List OB) (hP:∀ p∈kids,FoC pf ff W0 p∧bkB p≤1048576∧fwB p≤20000∧wfB p) (hlen:kids.length≤1048576) (kk k i0 g:Int) (r:Nat) (z:ByteArray) (kso:Option Addr) (ksn ksc:Nat) (ko vo:Option Addr) (kn kc vc:Nat)
  (S:Nat→Prop) (w:World) (hV:KidAt S w vo kids) (hvc:kids.length≤vc) (hS:∀ k,S k→k < w.heap.size) (hE:Env W0 w) :
  Calls Tryz.prog 36 #[.agg #[.int .i64 kk,.int .i64 0,.int .i64 0,.float .f64 0,.string ⟨#[]⟩,.slice kso ksn ksc,.slice none 0 0],.agg #[.int .i64 k,.int .i64 i0,.int .i64 g,.float .f64 r,.string z,.slice ko kn kc,.slice vo kids.length vc]] w fun e w'=>FkPost pf ff S w w' kids kk (.slice kso ksn ksc) e:=by
 obtain ⟨N,hN⟩:∃ N,N=kids.length:=⟨_,rfl⟩
 rw [←hN] at hlen hvc ⊢
 have HN:=Lib.hid hN
 have HP:=Lib.hid hP
 have HV:=Lib.hid hV
 have HS:=Lib.hid hS
 have HE:=Lib.hid hE
 obtain ⟨xobj,hxobj⟩:∃ x,x=Obj.cells #[.int .i64 k,.int .i64 i0,.int .i64 g,.float .f64 r,.string z,.slice ko kn kc,.slice vo N vc] 26 (0,0):=⟨_,rfl⟩
 obtain ⟨q0,q1,q2,q3⟩:=alloc3 w (.cells #[.int .i64 kk,.int .i64 0,.int .i64 0,.float .f64 0,.string ⟨#[]⟩,.slice kso ksn ksc,.slice none 0 0] 30) (.cells #[.int .i64 k,.int .i64 i0,.int .i64 g,.float .f64 r,.string z,.slice ko kn kc,.slice vo N vc] 26) Z30
 have hGW:w.grownBy (((w.alloc (.cells #[.int .i64 kk,.int .i64 0,.int .i64 0,.float .f64 0,.string ⟨#[]⟩,.slice kso ksn ksc,.slice none 0 0] 30)).alloc (.cells #[.int .i64 k,.int .i64 i0,.int .i64 g,.float .f64 r,.string z,.slice ko kn kc,.slice vo N vc] 26)).alloc Z30) none:=gr_alloc (gr_alloc (gr_alloc (World.grownBy.refl w none) _) _) _
 obtain ⟨W,hW⟩:∃ W,W=(((w.alloc (.cells #[.int .i64 kk,.int .i64 0,.int .i64 0,.float .f64 0,.string ⟨#[]⟩,.slice kso ksn ksc,.slice none 0 0] 30)).alloc (.cells #[.int .i64 k,.int .i64 i0,.int .i64 g,.float .f64 r,.string z,.slice ko kn kc,.slice vo N vc] 26)).alloc Z30):=⟨_,rfl⟩
 rw [←hW] at q0 q1 q2 hGW
 clear hP hV hS hE hN q3
 have hJ0:FkJ ff (RR pf ff) w W S 0 kids kk (.slice kso ksn ksc) xobj none 0 0 [] (fun _=>False) []:=⟨q0,by rw [hxobj];exact q1,q2,World.ownsRow_nil _ _ _ _,by simp [valPs,IsVs],by simp [Imgs],okSs_nil _ _,fun k hk=>hk.elim,hGW⟩
 have HJ0:=Lib.hid hJ0
 obtain ⟨y0,y1,y2,y3,y4,y5,y6,yf⟩:=cells7 q1
 have Hxo:=Lib.hid hxobj
 clear hJ0 q0 q1 q2 hGW hxobj
 go_enter Tryz.func36,Tryz.ntmps36
 go_upto_region 1 with (fail)
 unfold Z30 at hW
 rw [←hW]
 clear hW
 go_wp2_with fail
 clear y0 y1 y2 y3 y4 y5 y6 yf
 go_loopg [13] N (fun gg t13 wr=>∃ i so sn sc cells2 S2 ps,t13=.int .i64 (i:Nat)∧gg=N - i∧i≤N∧FkJ ff (RR pf ff) w wr S i kids kk (.slice kso ksn ksc) xobj so sn sc cells2 S2 ps)
 case atStart=>exact ⟨0,none,0,0,[],_,[],rfl,rfl,Nat.zero_le _,HJ0.out⟩
 case round =>
  clear HJ0
  obtain ⟨i,so,sn,sc,cells2,S2,ps,rfl,hg,hi,hJ⟩:=hrel
  have HJ:=Lib.hid hJ
  have Hg:=Lib.hid hg
  obtain ⟨v0,v1,v2,v3,v4,v5,v6,vf⟩:=cells7 hJ.vcell
  obtain ⟨z0,z1,z2,z3,z4,z5,z6,zf⟩:=cells7 hJ.res
  clear hJ hg
  by_cases hiN:i < N
  ·obtain ⟨pi,hpi⟩:∃ p,kids[i]?=some p:=⟨_,List.getElem?_eq_getElem (by rw [←HN.out];exact hiN)⟩
   obtain ⟨b0,j0,hvo,hSb,pko,pkc,pvo,pvc,hIi,hci⟩:=HV.out i pi hpi
   subst hvo
   have hblk:∀ k,S k→wr.heap[k]?=w.heap[k]?:=fun k hk=>HJ.out.grow.block k (HS.out k hk) (by simp)
   have hcc:∀ m u,(b7 pi (.slice pko pi.keys.length pkc) (.slice pvo pi.kids.length pvc))[m]?=some u→wr.cell? ⟨b0,j0 + i * 7 + m,none⟩=some u:=fun m u hm=>(World.cell?_of_block (hblk b0 hSb)).trans (hci m u hm)
   have e0:wr.cell? ⟨b0,j0 + i * 7,none⟩=_:=hcc 0 _ rfl
   have e1:=hcc 1 _ rfl
   have e2:=hcc 2 _ rfl
   have e3:=hcc 3 _ rfl
   have e4:=hcc 4 _ rfl
   have e5:=hcc 5 _ rfl
   have e6:=hcc 6 _ rfl
   obtain ⟨hP1,hP2,hP3,hP4⟩:=HP.out pi (List.mem_of_getElem? hpi)
   have hcall:=fun (w2:World) (hg2:wr.grownBy w2 none)=>hP1 S w2 (.slice pko pi.keys.length pkc) (.slice pvo pi.kids.length pvc) hP2 hP3 hP4 (IsB.keep (S':=S) (fun k hk=>⟨hk,(hg2.block k (Nat.lt_of_lt_of_le (HS.out k hk) HJ.out.grow.size) (by simp)).trans (hblk k hk)⟩) _ _ _ hIi) (fun k hk=>Nat.lt_of_lt_of_le (Nat.lt_of_lt_of_le (HS.out k hk) HJ.out.grow.size) hg2.size) ((HE.out.grown0 HJ.out.grow).grown0 hg2)
   have Hpi:=Lib.hid hpi
   have hnm:(i:Int) < N:=by omega
   have Hcall:=Lib.hid hcall
   clear hcall hcc hIi hci hpi hblk hP1 hP2 hP3 hP4
   unfold obV at Hcall
   generalize pi.k=k1 at *
   generalize pi.i=k2 at *
   generalize pi.g=k3 at *
   generalize pi.r=k4 at *
   generalize bs pi.t=k5 at *
   generalize pi.keys.length=k6 at *
   generalize pi.kids.length=k7 at *
   go_wp2_with fail
   obtain ⟨Wa,hWa⟩:∃ Wa,Wa=wr.alloc (.cells #[.int .i64 k1,.int .i64 k2,.int .i64 k3,.float .f64 k4,.string k5,.slice pko k6 pkc,.slice pvo k7 pvc] 26):=⟨_,rfl⟩
   have hga:wr.grownBy Wa none:=by rw [hWa];exact gr_alloc (World.grownBy.refl _ _) _
   rw [←hWa]
   refine (Hcall.out Wa hga).mono ?_
   rintro e w2 ⟨v,b,rfl,hsh,hg2,hb2⟩
   have hg2':=hga.trans hg2
   have hv2:=(hg2'.block _ (Array.getElem?_eq_some_iff.1 HJ.out.vcell).1 (by simp)).trans HJ.out.vcell
   have hx2:=(hg2'.block _ (Array.getElem?_eq_some_iff.1 HJ.out.xcell).1 (by simp)).trans HJ.out.xcell
   have hz2:=(hg2'.block _ (Array.getElem?_eq_some_iff.1 HJ.out.res).1 (by simp)).trans HJ.out.res
   have Hrow2:=Lib.hid (row_keptB HJ.out.row hg2' (fun k hk=>by simp))
   have Hga:=Lib.hid hga.size
   have Hg2:=Lib.hid hg2'
   have Hv2:=Lib.hid hv2
   have Hx2:=Lib.hid hx2
   have Hz2:=Lib.hid hz2
   have Hb2:=Lib.hid hb2
   have Hw2:=Lib.hid (show w.heap.size + 3≤w2.heap.size by have:=(Array.getElem?_eq_some_iff.1 hz2).1;omega)
   clear v0 v1 v2 v3 v4 v5 v6 vf z0 z1 z2 z3 z4 z5 z6 zf e0 e1 e2 e3 e4 e5 e6
   obtain ⟨v0,v1,v2,v3,v4,v5,v6,vf⟩:=cells7 hv2
   obtain ⟨z0,z1,z2,z3,z4,z5,z6,zf⟩:=cells7 hz2
   have hltR:w.heap.size + 1 + 1 < w2.heap.size:=(Array.getElem?_eq_some_iff.1 hz2).1
   have hltV:w.heap.size < w2.heap.size:=(Array.getElem?_eq_some_iff.1 hv2).1
   clear hWa hga hg2 hg2' hv2 hx2 hz2 hb2
   cases b
   ·obtain ⟨sk,sn2,sg,sx,st,so1,sn1,sc1,so2,sn3,sc2,rfl⟩:=hsh
    go_wp2_with fail
    refine fk_reta rfl rfl Hz2.out ?_
    intro w' hgr
    exact ⟨_,false,rfl,⟨_,_,_,_,_,_,_,_,_,_,_,rfl⟩,hgr _ _ (HJ.out.grow.trans Hg2.out) (by omega),fun h=>by cases h⟩
   ·obtain ⟨p,ks3,vs3,S3,himg,hok,rfl,hI3,hS3⟩:=Hb2.out rfl
    obtain ⟨⟨ko3,kn3,kc3,rfl⟩,⟨vo3,vn3,vc3,rfl⟩⟩:=IsV.slices hI3
    obtain ⟨q,hq⟩:∃ q,q=valP p:=⟨_,rfl⟩
    rw [←hq] at hI3 ⊢
    have HI3:=Lib.hid hI3
    have HS3:=Lib.hid hS3
    have Himg:=Lib.hid himg
    have Hok:=Lib.hid hok
    have Hq:=Lib.hid hq
    obtain ⟨ti,hti,htz0,htz1,htz2⟩:=info_parts Tryz.info30
    clear hsh Hb2 hI3 hS3 himg hok hq
    unfold valOf
    go_wp2_with (first | (at_builtin;refine wpList_append_own_at _ rfl _ _ 28 rfl (w.heap.size + 3) 30 ti _ 7 96 Tryz.underlying28 hti htz0 htz1 htz2 rfl (by decide) _ _ _ rfl (World.ownsRow.alloc (World.ownsRow.alloc Hrow2.out _) _) ⟨w2.heap.size + 1,0,none⟩ 1 1 (c7 q (.slice ko3 kn3 kc3) (.slice vo3 vn3 vc3)) (by rfl) (by rfl) (World.news_of_block (alloc2 w2 w2.heap.size rfl _ _).2) (by simp [Value.oneCell',c7]) (by unfold maxLen;omega) (by omega) (by have:=Hw2.out;simp;omega) ?_))
    intro v7 w7 ho7 hg7 _ hat7
    have hshape:∃ gg cap,v7=.slice (some ⟨gg,0,none⟩) (i + 1) cap:=by
     rcases ho7.2 with ⟨_,h0⟩ | ⟨gg,cap,cur,h,_⟩
     ·exact absurd h0 (by omega)
     ·exact ⟨gg,cap,h⟩
    obtain ⟨gg,cap7,rfl⟩:=hshape
    have hwi:IntKind.i64.wrap ((i:Int) + 1)=(i:Int) + 1:=IntWalk.i64_in _ (by omega)
    have hg27:=gr_alloc_then (gr_alloc_then hg7)
    have hrl:=World.ownsRow.lt HJ.out.row
    have hv7:=(hg27.block _ (Array.getElem?_eq_some_iff.1 Hv2.out).1 (fun e=>by have:=hrl _ e.symm;omega)).trans Hv2.out
    have hx7:=(hg27.block _ (Array.getElem?_eq_some_iff.1 Hx2.out).1 (fun e=>by have:=hrl _ e.symm;omega)).trans Hx2.out
    have hz7:=(hg27.block _ (Array.getElem?_eq_some_iff.1 Hz2.out).1 (fun e=>by have:=hrl _ e.symm;omega)).trans Hz2.out
    clear v0 v1 v2 v3 v4 v5 v6 vf z0 z1 z2 z3 z4 z5 z6 zf
    obtain ⟨v0,v1,v2,v3,v4,v5,v6,vf⟩:=cells7 hv7
    have Hg7:=Lib.hid hg27
    have Ho7:=Lib.hid ho7
    have Hv7:=Lib.hid hv7
    have Hx7:=Lib.hid hx7
    have Hz7:=Lib.hid hz7
    have Hat7:=Lib.hid (show (Value.slice so sn sc).ownBlock=some gg∨w2.heap.size≤gg from by
     rcases hat7 with h | h
     ·left;rw [←h];rfl
     ·right;simp [Value.ownBlock] at h;omega)
    clear hg7 ho7 hat7 hg27 hv7 hz7 hx7 hrl
    go_wp2_with fail
    go_roundg (N - (i + 1))
    case measure=>rw [Hg.out];omega
    case rel =>
     have hJ:=HJ.out
     have hrl:=World.ownsRow.lt hJ.row
     have hs2:=Hg2.out.size
     have hs7:=Hg7.out.size
     have hsa:=Hga.out
     have hw:=hJ.grow.size
     have hst:=gr_set (World.grownBy.refl w7 (some w.heap.size)) 6 (.slice (some ⟨gg,0,none⟩) (i + 1) cap7)
     have hsz:=hst.size
     have hrl7:=World.ownsRow.lt Ho7.out
     have hgg:=hrl7 gg rfl
     have hvl:=(Array.getElem?_eq_some_iff.1 hJ.vcell).1
     have hzl:=(Array.getElem?_eq_some_iff.1 hJ.res).1
     refine ⟨i + 1,_,_,_,_,fun k=>S2 k∨S3 k,ps ++ [p],by simp,rfl,by omega,⟨cells7_set6 Hv7.out _,(hst.block _ (Array.getElem?_eq_some_iff.1 Hx7.out).1 (fun e=>by injection e with e;omega)).trans Hx7.out,(hst.block _ (Array.getElem?_eq_some_iff.1 Hz7.out).1 (fun e=>by injection e with e;omega)).trans Hz7.out,row_keptB Ho7.out hst (fun k hk e=>by injection e with e;have:=hrl7 k hk;omega),?_,?_,okSs_snoc hJ.ok Hok.out,?_,?_⟩⟩
     ·have htk:valPs (ps ++ [p])=valPs ps ++ [q]:=by rw [valPs_map,valPs_map,List.map_append,Hq.out];rfl
      rw [htk]
      refine IsVs.append (IsVs.one (IsV.keep (fun k hk=>⟨.inr hk,?_⟩) _ _ _ HI3.out)) _ _ (IsVs.keep (fun k hk=>⟨.inl hk,?_⟩) _ _ hJ.objs)
      ·have h1:=HS3.out k hk
       have h2:k≠w.heap.size:=by
        rcases h1.1 with h | h
        ·have:=HS.out k h;omega
        ·omega
       refine (hst.block k (by omega) (by simp;omega)).trans (Hg7.out.block k h1.2 (fun e=>?_))
       have h3:=hrl k e.symm
       rcases h1.1 with h | h
       ·have:=HS.out k h;omega
       ·omega
      ·have h1:=hJ.bnd k hk
       have h2:k≠w.heap.size:=by
        rcases h1.1 with h | h
        ·have:=HS.out k h;omega
        ·omega
       exact (hst.block k (by omega) (by simp;omega)).trans ((Hg7.out.block k (by omega) (fun e=>h1.2.2 e.symm)).trans (Hg2.out.block k h1.2.1 (by simp)))
     ·rw [List.take_add_one,Hpi.out]
      exact Imgs.snoc hJ.img Himg.out
     ·intro k hk
      rcases hk with hk | hk
      ·have h1:=hJ.bnd k hk
       refine ⟨h1.1,by omega,fun e=>?_⟩
       have e:gg=k:=by simpa [Value.ownBlock] using e
       rcases Hat7.out with h | h
       ·exact h1.2.2 (h.trans (by rw [e]))
       ·omega
      ·have h1:=HS3.out k hk
       refine ⟨by rcases h1.1 with h | h;exact .inl h;exact .inr (by omega),by omega,fun e=>?_⟩
       have e:gg=k:=by simpa [Value.ownBlock] using e
       rcases Hat7.out with h | h
       ·have h5:=hrl gg h
        rcases h1.1 with h4 | h4
        ·have:=HS.out k h4;omega
        ·omega
       ·omega
     ·exact gr_noneThen (gr_noneThen (hJ.grow.trans Hg2.out) Hg7.out (fun j hj=>by have:=hrl j hj;omega)) hst (fun j hj=>by injection hj with hj;omega)
  ·obtain rfl:i=N:=by omega
   have hnm:¬(i:Int) < i:=by omega
   go_wp2_with fail
   refine fk_ret rfl rfl HJ.out.res ?_
   intro w' hk hsz hgr
   have hJ:=HJ.out
   have hrl:=World.ownsRow.lt hJ.row
   have hne:∀ k,(S2 k∨(Value.slice so sn sc).ownBlock=some k)→k≠w.heap.size + 1 + 1:=fun k hk=>by
    rcases hk with hk | hk
    ·rcases (hJ.bnd k hk).1 with h | h
     ·have:=HS.out k h;omega
     ·omega
    ·have:=hrl k hk;omega
   have hO:=IsVs.keep (S':=fun k=>S2 k∨(Value.slice so sn sc).ownBlock=some k) (w':=w') (fun k hk'=>⟨.inl hk',hk k (hne k (.inl hk'))⟩) _ _ hJ.objs
   have himg:=hJ.img
   rw [List.take_of_length_le (by have:=HN.out;omega)] at himg
   have hlen2:(valPs ps).length=i:=by rw [valPs_map,List.length_map,Imgs.len himg,←HN.out]
   have hSl:=(SlAt.of_row hJ.row (fun k=>(Value.slice so sn sc).ownBlock=some k) (fun k hk=>hk)).keep (S':=fun k=>S2 k∨(Value.slice so sn sc).ownBlock=some k) (w':=w') (fun k hk'=>⟨.inr hk',hk k (hne k (.inr hk'))⟩)
   have hbnd:∀ k,(S2 k∨(Value.slice so sn sc).ownBlock=some k)→(S k∨w.heap.size≤k)∧k < w'.heap.size:=fun k hk=>by
    rw [hsz]
    rcases hk with hk | hk
    ·have:=hJ.bnd k hk
     exact ⟨by rcases this.1 with h | h;exact .inl h;exact .inr (by omega),this.2.1⟩
    ·have:=hrl k hk
     exact ⟨.inr (by omega),this.2⟩
   exact ⟨_,true,rfl,⟨_,_,_,_,_,_,_,_,_,_,_,rfl⟩,hgr _ _ hJ.grow (by omega),fun _=>⟨ps,.slice so sn sc,cells2,_,himg,hJ.ok,rfl,by rw [hlen2];exact hSl,hO,hbnd⟩⟩
end Go.Proofs.YtfkecmlmnhbmoaaGreatDoor
