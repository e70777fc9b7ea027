/- Parts D10. -/
import Derived.Test.YtfkecmlmnhbmoaaGreatDoorW34
import Derived.Test.YtfkecmlmnhbmoaaGreatDoorW40
set_option linter.unusedVariables false
set_option linter.unusedSimpArgs false
set_option maxRecDepth 100000
set_option maxHeartbeats 40000000
namespace Go.Proofs.YtfkecmlmnhbmoaaGreatDoor
open Go Go.RowKit Go.Maps
def LfPost (w w':World)(Q:PV→Prop)(e:Ending):Prop:=∃(x:PV) (b:Bool),e=.returned (.tuple #[valOf x nilS nilS,.bool b])∧w.grownBy w' none∧(b=true→Q x)
section
variable (i g:Int) (r:Nat) (z:ByteArray) (ko vo:Option Addr) (kn kc vn vc:Nat) (w:World)
theorem fo_null:Calls Tryz.prog 18 #[.agg #[.int .i64 0,.int .i64 i,.int .i64 g,.float .f64 r,.string z,.slice ko kn kc,.slice vo vn vc]] w fun e w'=>LfPost w w' (fun x=>x=.null) e:=by
 obtain⟨hg0,hb0,hz0⟩:=fr_world w (.cells #[.int .i64 0,.int .i64 i,.int .i64 g,.float .f64 r,.string z,.slice ko kn kc,.slice vo vn vc] 26);unfold Z30 at *;go_enter Tryz.func18,Tryz.ntmps18;go_wp2_with fail
 refine(only_all _ _ _ _ _ _ _ _ _ _ _ _).mono ?_;rintro e w1⟨⟨b,rfl⟩,hg1⟩;have hb1:=(hg1.block _ (xgl hb0) (by simp)).trans hb0;have hz1:=(hg1.block _ (xgl hz0) (by simp)).trans hz0;obtain⟨y0,y1,y2,y3,y4,y5,y6,yf⟩:=cells7 hb1;obtain⟨z0,z1,z2,z3,z4,z5,z6,zf⟩:=cells7 hz1;obtain⟨HZ,HBk⟩:=xh2 hz1 hb1;have HG:=xhd (hg0.trans hg1);clear hg0 hb0 hz0 hg1 hb1 hz1
 cases b
 ·go_wp2_with fail
  refine fr_ret rfl rfl HZ.out ?_;intro w' _ _ hgr
  first
   | exact⟨.null,false,rfl,hgr _ _ HG.out (by omega),fun h=>by cases h⟩
   | exact⟨_,false,rfl,⟨_,_,_,_,_,_,_,_,_,_,_,rfl⟩,hgr _ _ HG.out (by omega),fun h=>by cases h⟩
 ·go_wp2_with fail
  refine fr_ret rfl rfl HZ.out ?_;intro w' _ _ hgr;exact⟨.null,true,rfl,hgr _ _ HG.out (by omega),fun _=>rfl⟩
theorem fo_bool:Calls Tryz.prog 18 #[.agg #[.int .i64 1,.int .i64 i,.int .i64 g,.float .f64 r,.string z,.slice ko kn kc,.slice vo vn vc]] w fun e w'=>LfPost w w' (fun x=>x=.bool i∧(i=0∨i=1)) e:=by
 obtain⟨hg0,hb0,hz0⟩:=fr_world w (.cells #[.int .i64 1,.int .i64 i,.int .i64 g,.float .f64 r,.string z,.slice ko kn kc,.slice vo vn vc] 26);unfold Z30 at *;go_enter Tryz.func18,Tryz.ntmps18;go_wp2_with fail
 refine(only_all _ _ _ _ _ _ _ _ _ _ _ _).mono ?_;rintro e w1⟨⟨b,rfl⟩,hg1⟩;have hb1:=(hg1.block _ (xgl hb0) (by simp)).trans hb0;have hz1:=(hg1.block _ (xgl hz0) (by simp)).trans hz0;obtain⟨y0,y1,y2,y3,y4,y5,y6,yf⟩:=cells7 hb1;obtain⟨z0,z1,z2,z3,z4,z5,z6,zf⟩:=cells7 hz1;obtain⟨HZ,HBk⟩:=xh2 hz1 hb1;have HG:=xhd (hg0.trans hg1);clear hg0 hb0 hz0 hg1 hb1 hz1
 cases b
 ·go_wp2_with fail
  refine fr_ret rfl rfl HZ.out ?_;intro w' _ _ hgr
  first
   | exact⟨.null,false,rfl,hgr _ _ HG.out (by omega),fun h=>by cases h⟩
   | exact⟨_,false,rfl,⟨_,_,_,_,_,_,_,_,_,_,_,rfl⟩,hgr _ _ HG.out (by omega),fun h=>by cases h⟩
 ·rcases xbt (i==0) with h0|h0
  ·go_wp2_with fail
   go_region
   go_wp2_with fail
   refine fr_retd rfl rfl HZ.out ?_;intro w' hgr;exact⟨.bool i,true,rfl,hgr _ _ HG.out (by omega),fun _=>⟨rfl,.inl (by simpa using h0)⟩⟩
  ·rcases xbt (i==1) with h1|h1
   all_goals
    go_wp2_with fail
    go_region
    go_wp2_with fail
    refine fr_retd rfl rfl HZ.out ?_;intro w' hgr
    first
     | exact⟨.bool i,true,rfl,hgr _ _ HG.out (by omega),fun _=>⟨rfl,.inr (by simpa using h1)⟩⟩
     | exact⟨.bool i,false,rfl,hgr _ _ HG.out (by omega),fun h=>by cases h⟩
theorem fo_int:Calls Tryz.prog 18 #[.agg #[.int .i64 2,.int .i64 i,.int .i64 g,.float .f64 r,.string z,.slice ko kn kc,.slice vo vn vc]] w fun e w'=>LfPost w w' (fun x=>x=.int i∧-2147483648≤i∧i<2147483648) e:=by
 obtain⟨hg0,hb0,hz0⟩:=fr_world w (.cells #[.int .i64 2,.int .i64 i,.int .i64 g,.float .f64 r,.string z,.slice ko kn kc,.slice vo vn vc] 26);unfold Z30 at *;go_enter Tryz.func18,Tryz.ntmps18;go_wp2_with fail
 refine(only_all _ _ _ _ _ _ _ _ _ _ _ _).mono ?_;rintro e w1⟨⟨b,rfl⟩,hg1⟩;have hb1:=(hg1.block _ (xgl hb0) (by simp)).trans hb0;have hz1:=(hg1.block _ (xgl hz0) (by simp)).trans hz0;obtain⟨y0,y1,y2,y3,y4,y5,y6,yf⟩:=cells7 hb1;obtain⟨z0,z1,z2,z3,z4,z5,z6,zf⟩:=cells7 hz1;obtain⟨HZ,HBk⟩:=xh2 hz1 hb1;have HG:=xhd (hg0.trans hg1);clear hg0 hb0 hz0 hg1 hb1 hz1
 cases b
 ·go_wp2_with fail
  refine fr_ret rfl rfl HZ.out ?_;intro w' _ _ hgr
  first
   | exact⟨.null,false,rfl,hgr _ _ HG.out (by omega),fun h=>by cases h⟩
   | exact⟨_,false,rfl,⟨_,_,_,_,_,_,_,_,_,_,_,rfl⟩,hgr _ _ HG.out (by omega),fun h=>by cases h⟩
 ·rcases xbt (decide (-2147483648≤i)) with h0|h0
  ·go_wp2_with fail
   go_region
   go_wp2_with fail
   refine fr_retd rfl rfl HZ.out ?_;intro w' hgr;exact⟨.int i,decide (i<2147483648),rfl,hgr _ _ HG.out (by omega),fun h=>⟨rfl,of_decide_eq_true h0,of_decide_eq_true h⟩⟩
  ·go_wp2_with fail
   go_region
   go_wp2_with fail
   refine fr_retd rfl rfl HZ.out ?_;intro w' hgr;exact⟨.int i,false,rfl,hgr _ _ HG.out (by omega),fun h=>by cases h⟩
def noKind (k:Int):Prop:=(k==0)=false∧(k==1)=false∧(k==2)=false∧(k==3)=false∧(k==4)=false∧(k==5)=false∧(k==6)=false∧(k==9)=false∧(k==7)=false∧(k==8)=false
theorem fo_none (k:Int)(hk:noKind k):Calls Tryz.prog 18 #[.agg #[.int .i64 k,.int .i64 i,.int .i64 g,.float .f64 r,.string z,.slice ko kn kc,.slice vo vn vc]] w fun e w'=>LfPost w w' (fun _=>False) e:=by
 obtain⟨k0,k1,k2,k3,k4,k5,k6,k9,k7,k8⟩:=hk;obtain⟨hg0,hb0,hz0⟩:=fr_world w (.cells #[.int .i64 k,.int .i64 i,.int .i64 g,.float .f64 r,.string z,.slice ko kn kc,.slice vo vn vc] 26);unfold Z30 at *;go_enter Tryz.func18,Tryz.ntmps18;go_wp2_with fail
 refine(only_all _ _ _ _ _ _ _ _ _ _ _ _).mono ?_;rintro e w1⟨⟨b,rfl⟩,hg1⟩;have hb1:=(hg1.block _ (xgl hb0) (by simp)).trans hb0;have hz1:=(hg1.block _ (xgl hz0) (by simp)).trans hz0;obtain⟨y0,y1,y2,y3,y4,y5,y6,yf⟩:=cells7 hb1;obtain⟨z0,z1,z2,z3,z4,z5,z6,zf⟩:=cells7 hz1;obtain⟨HZ,HBk⟩:=xh2 hz1 hb1;have HG:=xhd (hg0.trans hg1);clear hg0 hb0 hz0 hg1 hb1 hz1
 cases b
 ·go_wp2_with fail
  refine fr_ret rfl rfl HZ.out ?_;intro w' _ _ hgr
  first
   | exact⟨.null,false,rfl,hgr _ _ HG.out (by omega),fun h=>by cases h⟩
   | exact⟨_,false,rfl,⟨_,_,_,_,_,_,_,_,_,_,_,rfl⟩,hgr _ _ HG.out (by omega),fun h=>by cases h⟩
 ·go_wp2_with fail
  refine fr_ret rfl rfl HZ.out ?_;intro w' _ _ hgr;exact⟨.null,false,rfl,hgr _ _ HG.out (by omega),fun h=>by cases h⟩
theorem fo_ref:Calls Tryz.prog 18 #[.agg #[.int .i64 9,.int .i64 i,.int .i64 g,.float .f64 r,.string z,.slice ko kn kc,.slice vo vn vc]] w fun e w'=>LfPost w w' (fun x=>x=.ref i g∧0<i∧i<2147483648∧0≤g∧g≤65535) e:=by
 obtain⟨hg0,hb0,hz0⟩:=fr_world w (.cells #[.int .i64 9,.int .i64 i,.int .i64 g,.float .f64 r,.string z,.slice ko kn kc,.slice vo vn vc] 26);unfold Z30 at *;go_enter Tryz.func18,Tryz.ntmps18;go_wp2_with fail
 refine(only_all _ _ _ _ _ _ _ _ _ _ _ _).mono ?_;rintro e w1⟨⟨b,rfl⟩,hg1⟩;have hb1:=(hg1.block _ (xgl hb0) (by simp)).trans hb0;have hz1:=(hg1.block _ (xgl hz0) (by simp)).trans hz0;obtain⟨y0,y1,y2,y3,y4,y5,y6,yf⟩:=cells7 hb1;obtain⟨z0,z1,z2,z3,z4,z5,z6,zf⟩:=cells7 hz1;obtain⟨HZ,HBk⟩:=xh2 hz1 hb1;have HG:=xhd (hg0.trans hg1);clear hg0 hb0 hz0 hg1 hb1 hz1
 cases b
 ·go_wp2_with fail
  refine fr_ret rfl rfl HZ.out ?_;intro w' _ _ hgr
  first
   | exact⟨.null,false,rfl,hgr _ _ HG.out (by omega),fun h=>by cases h⟩
   | exact⟨_,false,rfl,⟨_,_,_,_,_,_,_,_,_,_,_,rfl⟩,hgr _ _ HG.out (by omega),fun h=>by cases h⟩
 ·rcases xbt (decide (0<i)) with h0|h0
  rotate_left
  ·go_wp2_with fail
   go_region
   go_wp2_with fail
   refine fr_retd rfl rfl HZ.out ?_;intro w' hgr;exact⟨.ref i g,false,rfl,hgr _ _ HG.out (by omega),fun h=>by cases h⟩
  ·rcases xbt (decide (i<2147483648)) with h1|h1
   rotate_left
   ·go_wp2_with fail
    go_region
    go_wp2_with fail
    refine fr_retd rfl rfl HZ.out ?_;intro w' hgr;exact⟨.ref i g,false,rfl,hgr _ _ HG.out (by omega),fun h=>by cases h⟩
   ·rcases xbt (decide (0≤g)) with h2|h2
    rotate_left
    ·go_wp2_with fail
     go_region
     go_wp2_with fail
     refine fr_retd rfl rfl HZ.out ?_;intro w' hgr;exact⟨.ref i g,false,rfl,hgr _ _ HG.out (by omega),fun h=>by cases h⟩
    ·go_wp2_with fail
     go_region
     go_wp2_with fail
     refine fr_retd rfl rfl HZ.out ?_;intro w' hgr;exact⟨.ref i g,decide (g≤65535),rfl,hgr _ _ HG.out (by omega),fun h=>⟨rfl,of_decide_eq_true h0,of_decide_eq_true h1,of_decide_eq_true h2,of_decide_eq_true h⟩⟩
end
end Go.Proofs.YtfkecmlmnhbmoaaGreatDoor
