/- The texts J16 D5 Q2 Q1 Q3 of the workbench, laid together. -/
import Derived.Test.YtfkecmlmnhbmoaaGreatDoorProg
import Derived.WalkKit
import Derived.WalkLawsBesides
import Derived.WalkSpells
import Derived.BigQuiet
import Derived.BigRegion
import Derived.Deep.QuietTactic
import Derived.Deep.RegionHeld3
import Derived.Deep.LoopGhost
import Derived.StillTailTactics
import Derived.Lib.Hide
import Derived.Laws.EntriesVeiled
import Derived.Laws.MakeOwn
import Derived.Shelf.Hex.Encode
import Derived.Test.YtfkecmlmnhbmoaaGreatDoorY1
import Derived.Test.YtfkecmlmnhbmoaaGreatDoorY19
import Derived.Test.YtfkecmlmnhbmoaaGreatDoorY21
import Derived.Test.YtfkecmlmnhbmoaaGreatDoorY31
import Derived.Test.YtfkecmlmnhbmoaaGreatDoorY32
import Derived.Test.YtfkecmlmnhbmoaaGreatDoorY37
set_option linter.unusedVariables false
set_option linter.unusedSimpArgs false
namespace Go.Proofs.YtfkecmlmnhbmoaaGreatDoor
open Go Go.RowKit
open Go.Lib
theorem ft_ex (W0:World) (hF:FInit2 W0) (hT:TabIs Tryz.prog W0 "internal/strconv.uint64pow10" .u64 pow10Tab) (x:Nat) (hx:x < 18446744073709551616) (hb:x % 9223372036854775808 < 4816244402031689728):∃ t,numOk t∧Ft64 W0 x t:=by
 obtain ⟨sg,hsg⟩:∃ s,s=x / 9223372036854775808:=⟨_,rfl⟩
 obtain ⟨ef,hef⟩:∃ s,s=x / 4503599627370496 % 2048:=⟨_,rfl⟩
 obtain ⟨fr,hfr⟩:∃ s,s=x % 4503599627370496:=⟨_,rfl⟩
 have hxe:x=sg * 9223372036854775808 + ef * 4503599627370496 + fr:=by omega
 have hs:sg≤1:=by omega
 have hf:fr < 4503599627370496:=by omega
 have hbb:ef * 4503599627370496 + fr < 4816244402031689728:=by omega
 clear hsg hef hfr hb
 have hnil:isDs ([]:By):=fun c hc=>by cases hc
 by_cases h0:ef=0
 ·subst h0
  by_cases hf0:fr=0
  ·subst hf0
   have h2:sg=0∨sg=1:=by omega
   rcases h2 with rfl | rfl
   ·exact ⟨_,ftxt_ok hnil (by omega) _,ft_zero W0 x false (by simp;omega)⟩
   ·exact ⟨_,ftxt_ok hnil (by omega) _,ft_zero W0 x true (by simp;omega)⟩
  ·exact ⟨_,ftxt_ok hnil (by omega) _,ft_sub W0 hF.toFInit x sg fr hxe hs hf (by omega)⟩
 ·by_cases h1:ef≤979
  ·exact ⟨_,ftxt_ok hnil (by omega) _,ft_tiny W0 hF.toFInit x sg ef fr hxe hs (by omega) h1 hf⟩
  ·by_cases h2:ef≤1041
   ·obtain ⟨L,dp,hL,_,hdp,h⟩:=ft_fast W0 hF hT x sg ef fr hxe hs (by omega) h2 hf
    exact ⟨_,ftxt_ok hL hdp _,h⟩
   ·obtain ⟨L,dp,hL,_,hdp,h⟩:=ft_slow W0 hF.toFInit x sg ef fr hxe hs (by omega) (by omega) hf hbb
    exact ⟨_,ftxt_ok hL hdp _,h⟩
def FfC (W0:World) (x:Nat) (t:By):Prop:=∀ w:World,Env W0 w→Calls Tryz.prog 58 #[.float .f64 x,.int .u8 102,.int .i64 12,.int .i64 64] w fun e w'=>e=.returned (.string (bs t))∧w.grownBy w' none
set_option maxRecDepth 100000 in
set_option maxHeartbeats 40000000 in
theorem ff_of (W0:World) (x:Nat) (t:By) (h:Ft64 W0 x t):FfC W0 x t:=by
 intro w hE
 have h74:Calls Tryz.prog 74 #[.float .f64 x,.int .u8 102,.int .i64 12,.int .i64 64] w fun e w'=>e=.returned (.string (bs t))∧w.grownBy w' none:=by
  have HH:=Lib.hid h
  have HE:=Lib.hid hE
  have hmx:max (16:Int) 24=24:=by decide
  obtain ⟨i,hi,hz0,hz1,hz2⟩:=info_parts Tryz.info5
  obtain ⟨w1,hmk,hown,hg1⟩:=run_makeSlice_owned (P:=Tryz.prog) w w.heap.size 84 5 i (.int .u8 0) 1 Tryz.underlying84 hi hz0 hz1 .i64 .i64 24 (by decide) (by rw [hz2];decide) (by decide) (Nat.le_refl _)
  have hmk2:(Instr.makeSlice 84 (.int .i64 0) (.int .i64 24)).run Tryz.prog w=.ok (.slice (some ⟨w.heap.size,0,none⟩) 0 24) w1:=hmk
  have Hown:=Lib.hid (show OwnB w.heap.size w1 (.slice (some ⟨w.heap.size,0,none⟩) 0 24) [] from hown)
  have Hg1:=Lib.hid hg1
  clear h hE hi hz0 hz1 hz2 hmk hown hg1
  go_enter Tryz.func74,Tryz.ntmps74
  go_wp2_with fail
  refine (HH.out w1 w.heap.size _ Hown.out Hg1.out.size (HE.out.grown0 Hg1.out)).mono ?_
  rintro e w2 ⟨v',rfl,hD⟩
  have HD:=Lib.hid hD
  have Hb:=Lib.hid (show (⟨t.toArray⟩:ByteArray)=bs t from rfl)
  clear hD
  go_wp2_with ((with_reducible refine wpList_ownstr (o:=⟨some 31,_,_,_,_,_⟩) rfl (.tmp 30) rfl w.heap.size t ?_ ?_);(· exact HD.out.own))
  go_wp2_with fail
  go_ret
  exact ⟨rfl,gr_noneThen Hg1.out HD.out.gr (fun j hj=>by simp [Value.ownBlock] at hj;omega)⟩
 have H74:=Lib.hid h74
 clear h74 h hE
 go_enter Tryz.func58,Tryz.ntmps58
 go_wp2_with fail
 refine H74.out.mono ?_
 rintro e w1 ⟨rfl,hg⟩
 have Hg:=Lib.hid hg
 clear hg
 go_wp2_with fail
 go_ret
 exact ⟨rfl,Hg.out⟩
open Classical in
theorem FFC_ex (W0:World) (hF:FInit2 W0) (hT:TabIs Tryz.prog W0 "internal/strconv.uint64pow10" .u64 pow10Tab):∃ ff:Nat→By,∀ x,x < 18446744073709551616→x % 9223372036854775808 < 4816244402031689728→numOk (ff x)∧FfC W0 x (ff x):=by
 have key:∀ x,∃ t,x < 18446744073709551616→x % 9223372036854775808 < 4816244402031689728→numOk t∧FfC W0 x t:=fun x=>by
  by_cases h:x < 18446744073709551616∧x % 9223372036854775808 < 4816244402031689728
  ·obtain ⟨t,h1,h2⟩:=ft_ex W0 hF hT x h.1 h.2
   exact ⟨t,fun _ _=>⟨h1,ff_of W0 x t h2⟩⟩
  ·exact ⟨[],fun h1 h2=>absurd ⟨h1,h2⟩ h⟩
 exact ⟨fun x=>Classical.choose (key x),fun x=>Classical.choose_spec (key x)⟩
end Go.Proofs.YtfkecmlmnhbmoaaGreatDoor
namespace Go.Proofs.YtfkecmlmnhbmoaaGreatDoor
open Go Go.RowKit
def R12 (pf:By→Nat) (ff:Nat→By) (x:Nat):Prop:=FloatKind.f64.format.order (pf (ff x)) x=some Ordering.eq
def FfAll (ff:Nat→By) (W0:World):Prop:=∀ x,x < 18446744073709551616→x % 9223372036854775808 < 4816244402031689728→numOk (ff x)∧FfC W0 x (ff x)
def TwPost (pf:By→Nat) (ff:Nat→By) (x:Nat) (w w':World) (e:Ending):Prop:=∃ b:Bool,e=.returned (.bool b)∧w.grownBy w' none∧(b=true→numOk (ff x)∧R12 pf ff x∧x % 9223372036854775808 < 4816244402031689728)
set_option maxRecDepth 100000 in
set_option maxHeartbeats 40000000 in
theorem twelve_any (pf:By→Nat) (ff:Nat→By) (W0:World) (hpf:PFC pf W0) (hff:FfAll ff W0) (x:Nat) (hx:x < 18446744073709551616) (w:World) (hE:Env W0 w):Calls Tryz.prog 31 #[.float .f64 x] w fun e w'=>TwPost pf ff x w w' e:=by
 obtain ⟨r,w1,hr,hw1,hfin⟩:=run_self_sub x w
 have hg1:w.grownBy w1 none:=by
  rcases hw1 with rfl | rfl
  ·exact World.grownBy.refl _ _
  ·exact gr_drew (World.grownBy.refl _ _)
 have Hg1:=Lib.hid hg1
 clear hg1 hw1
 rcases hfin with ⟨hf,hb⟩ | ⟨hf,hb⟩
 ·rcases Bool.eq_false_or_eq_true (FloatKind.f64.format.order x 4816244402031689728 == some Ordering.gt || FloatKind.f64.format.order x 4816244402031689728 == some Ordering.eq) with hc | hc
  ·clear hf
   go_enter Tryz.func31,Tryz.ntmps31
   go_wp2_with fail
   go_ret
   exact ⟨false,rfl,Hg1.out,fun h=>by cases h⟩
  ·rcases Bool.eq_false_or_eq_true (FloatKind.f64.format.order x 14039616438886465536 == some Ordering.lt || FloatKind.f64.format.order x 14039616438886465536 == some Ordering.eq) with hd | hd
   ·clear hf
    go_enter Tryz.func31,Tryz.ntmps31
    go_wp2_with fail
    go_ret
    exact ⟨false,rfl,Hg1.out,fun h=>by cases h⟩
   ·have hlt:x % 9223372036854775808 < 4816244402031689728:=by
     by_cases hge:4816244402031689728≤x % 9223372036854775808
     ·exfalso
      by_cases hs:x < 9223372036854775808
      ·rcases ord_pos hs (by omega) (by omega) with h | h<;>(rw [h] at hc;revert hc;decide)
      ·rcases ord_neg (by omega) hx hge hf with h | h<;>(rw [h] at hd;revert hd;decide)
     ·omega
    obtain ⟨hok,hfc⟩:=hff x hx hlt
    have Hlt:=Lib.hid (And.intro hok hlt)
    have H1:=Lib.hid (hfc w1 (hE.grown0 Hg1.out))
    have H2:=Lib.hid (fun (w2:World) (hg2:w1.grownBy w2 none)=>hpf (ff x) w2 hok ((hE.grown0 Hg1.out).grown0 hg2))
    have He:=Lib.hid (show (⟨(ff x).toArray⟩:ByteArray)=bs (ff x) from rfl)
    obtain ⟨t,ht⟩:∃ t,t=bs (ff x):=⟨_,rfl⟩
    obtain ⟨g,hg⟩:∃ g,g=pf (ff x):=⟨_,rfl⟩
    rw [He.out,←ht,←hg] at H2
    rw [←ht] at H1
    have Hg:=Lib.hid hg
    clear hok hfc hlt ht hg hff hpf hE hf He
    rcases Bool.eq_false_or_eq_true (FloatKind.f64.format.order g x == some Ordering.eq) with heq | heq
    all_goals
     go_enter Tryz.func31,Tryz.ntmps31
     go_wp2_with fail
     refine H1.out.mono ?_
     rintro e w2 ⟨rfl,hg2⟩
     have Hg2:=Lib.hid hg2
     clear hg2
     go_wp2_with fail
     refine (H2.out w2 Hg2.out).mono ?_
     rintro e w3 ⟨rfl,hg3⟩
     have Hg3:=Lib.hid hg3
     clear hg3
     go_wp2_with fail
     go_ret
     first
      | exact ⟨false,rfl,Hg1.out.trans (Hg2.out.trans Hg3.out),fun h=>by cases h⟩
      | exact ⟨true,rfl,Hg1.out.trans (Hg2.out.trans Hg3.out),fun _=>⟨Hlt.out.1,by unfold R12;rw [←Hg.out];simpa using heq,Hlt.out.2⟩⟩
 ·clear hf
  go_enter Tryz.func31,Tryz.ntmps31
  go_wp2_with fail
  go_ret
  exact ⟨false,rfl,Hg1.out,fun h=>by cases h⟩
end Go.Proofs.YtfkecmlmnhbmoaaGreatDoor
namespace Go.Proofs.YtfkecmlmnhbmoaaGreatDoor
open Go Go.RowKit
@[go_sem] theorem ta_77_81 (v:Value) (w:World):(Instr.typeAssert (.iface 77 v) 50 81 true).run Tryz.prog w=.ok (.tuple #[.map none,.bool false]) w:=by kernel_rfl
@[go_sem] theorem ta_73_81 (v:Value) (w:World):(Instr.typeAssert (.iface 73 v) 50 81 true).run Tryz.prog w=.ok (.tuple #[.map none,.bool false]) w:=by kernel_rfl
@[go_sem] theorem ta_73_77 (v:Value) (w:World):(Instr.typeAssert (.iface 73 v) 50 77 true).run Tryz.prog w=.ok (.tuple #[.slice none 0 0,.bool false]) w:=by kernel_rfl
@[go_sem] theorem ta_71_81 (v:Value) (w:World):(Instr.typeAssert (.iface 71 v) 50 81 true).run Tryz.prog w=.ok (.tuple #[.map none,.bool false]) w:=by kernel_rfl
@[go_sem] theorem ta_71_77 (v:Value) (w:World):(Instr.typeAssert (.iface 71 v) 50 77 true).run Tryz.prog w=.ok (.tuple #[.slice none 0 0,.bool false]) w:=by kernel_rfl
@[go_sem] theorem ta_71_73 (v:Value) (w:World):(Instr.typeAssert (.iface 71 v) 50 73 true).run Tryz.prog w=.ok (.tuple #[.agg #[.int .i64 0,.int .i64 0],.bool false]) w:=by kernel_rfl
@[go_sem] theorem ta_67_81 (v:Value) (w:World):(Instr.typeAssert (.iface 67 v) 50 81 true).run Tryz.prog w=.ok (.tuple #[.map none,.bool false]) w:=by kernel_rfl
@[go_sem] theorem ta_67_77 (v:Value) (w:World):(Instr.typeAssert (.iface 67 v) 50 77 true).run Tryz.prog w=.ok (.tuple #[.slice none 0 0,.bool false]) w:=by kernel_rfl
@[go_sem] theorem ta_67_73 (v:Value) (w:World):(Instr.typeAssert (.iface 67 v) 50 73 true).run Tryz.prog w=.ok (.tuple #[.agg #[.int .i64 0,.int .i64 0],.bool false]) w:=by kernel_rfl
@[go_sem] theorem ta_67_71 (v:Value) (w:World):(Instr.typeAssert (.iface 67 v) 50 71 true).run Tryz.prog w=.ok (.tuple #[.string ⟨#[]⟩,.bool false]) w:=by kernel_rfl
@[go_sem] theorem ta_68_81 (v:Value) (w:World):(Instr.typeAssert (.iface 68 v) 50 81 true).run Tryz.prog w=.ok (.tuple #[.map none,.bool false]) w:=by kernel_rfl
@[go_sem] theorem ta_68_77 (v:Value) (w:World):(Instr.typeAssert (.iface 68 v) 50 77 true).run Tryz.prog w=.ok (.tuple #[.slice none 0 0,.bool false]) w:=by kernel_rfl
@[go_sem] theorem ta_68_73 (v:Value) (w:World):(Instr.typeAssert (.iface 68 v) 50 73 true).run Tryz.prog w=.ok (.tuple #[.agg #[.int .i64 0,.int .i64 0],.bool false]) w:=by kernel_rfl
@[go_sem] theorem ta_68_71 (v:Value) (w:World):(Instr.typeAssert (.iface 68 v) 50 71 true).run Tryz.prog w=.ok (.tuple #[.string ⟨#[]⟩,.bool false]) w:=by kernel_rfl
@[go_sem] theorem ta_66_81 (v:Value) (w:World):(Instr.typeAssert (.iface 66 v) 50 81 true).run Tryz.prog w=.ok (.tuple #[.map none,.bool false]) w:=by kernel_rfl
@[go_sem] theorem ta_66_77 (v:Value) (w:World):(Instr.typeAssert (.iface 66 v) 50 77 true).run Tryz.prog w=.ok (.tuple #[.slice none 0 0,.bool false]) w:=by kernel_rfl
@[go_sem] theorem ta_66_73 (v:Value) (w:World):(Instr.typeAssert (.iface 66 v) 50 73 true).run Tryz.prog w=.ok (.tuple #[.agg #[.int .i64 0,.int .i64 0],.bool false]) w:=by kernel_rfl
@[go_sem] theorem ta_66_71 (v:Value) (w:World):(Instr.typeAssert (.iface 66 v) 50 71 true).run Tryz.prog w=.ok (.tuple #[.string ⟨#[]⟩,.bool false]) w:=by kernel_rfl
@[go_sem] theorem ta_66_67 (v:Value) (w:World):(Instr.typeAssert (.iface 66 v) 50 67 true).run Tryz.prog w=.ok (.tuple #[.int .i64 0,.bool false]) w:=by kernel_rfl
@[go_sem] theorem ta_66_68 (v:Value) (w:World):(Instr.typeAssert (.iface 66 v) 50 68 true).run Tryz.prog w=.ok (.tuple #[.float .f64 0,.bool false]) w:=by kernel_rfl
@[go_sem] theorem ta_69_81 (v:Value) (w:World):(Instr.typeAssert (.iface 69 v) 50 81 true).run Tryz.prog w=.ok (.tuple #[.map none,.bool false]) w:=by kernel_rfl
@[go_sem] theorem ta_69_77 (v:Value) (w:World):(Instr.typeAssert (.iface 69 v) 50 77 true).run Tryz.prog w=.ok (.tuple #[.slice none 0 0,.bool false]) w:=by kernel_rfl
@[go_sem] theorem ta_69_73 (v:Value) (w:World):(Instr.typeAssert (.iface 69 v) 50 73 true).run Tryz.prog w=.ok (.tuple #[.agg #[.int .i64 0,.int .i64 0],.bool false]) w:=by kernel_rfl
@[go_sem] theorem ta_69_71 (v:Value) (w:World):(Instr.typeAssert (.iface 69 v) 50 71 true).run Tryz.prog w=.ok (.tuple #[.string ⟨#[]⟩,.bool false]) w:=by kernel_rfl
@[go_sem] theorem ta_70_81 (v:Value) (w:World):(Instr.typeAssert (.iface 70 v) 50 81 true).run Tryz.prog w=.ok (.tuple #[.map none,.bool false]) w:=by kernel_rfl
@[go_sem] theorem ta_70_77 (v:Value) (w:World):(Instr.typeAssert (.iface 70 v) 50 77 true).run Tryz.prog w=.ok (.tuple #[.slice none 0 0,.bool false]) w:=by kernel_rfl
@[go_sem] theorem ta_70_73 (v:Value) (w:World):(Instr.typeAssert (.iface 70 v) 50 73 true).run Tryz.prog w=.ok (.tuple #[.agg #[.int .i64 0,.int .i64 0],.bool false]) w:=by kernel_rfl
@[go_sem] theorem ta_70_71 (v:Value) (w:World):(Instr.typeAssert (.iface 70 v) 50 71 true).run Tryz.prog w=.ok (.tuple #[.string ⟨#[]⟩,.bool false]) w:=by kernel_rfl
end Go.Proofs.YtfkecmlmnhbmoaaGreatDoor
namespace Go.Proofs.YtfkecmlmnhbmoaaGreatDoor
open Go Go.RowKit
theorem nhex_any (n:Int) (w:World):Calls Tryz.prog 280 #[.int .u8 n] w fun e w'=>e=.returned (.bool (needHex n))∧w'=w:=by
 by_cases h1:n < 33
 all_goals
  go_enter Tryz.func280,Tryz.ntmps280
  go_wp2
  all_goals (go_ret;exact ⟨by simp_all [needHex]<;>omega,rfl⟩)
theorem bs_app (a b:By):bs a ++ bs b=bs (a ++ b):=by
 apply ByteArray.ext
 simp [bs]
theorem sstr_any (l:By) (hl:l.length≤1000000000) (w:World):Calls Tryz.prog 272 #[.string (bs l)] w fun e w'=>e=.returned (.string (bs (40::(l ++ [41]))))∧w'=w:=by
 have e1:(⟨#[40]⟩:ByteArray)=bs [40]:=rfl
 have e2:(⟨#[41]⟩:ByteArray)=bs [41]:=rfl
 have s0:=bs_size l
 have s1:(bs [40]).size=1:=rfl
 have s2:(bs [41]).size=1:=rfl
 go_enter Tryz.func272,Tryz.ntmps272
 go_wp2
 all_goals first | omega | skip
 go_ret;exact ⟨by simp only [bs_app];rfl,rfl⟩
theorem hstr_any (l:By) (hl:l.length≤1000000000) (w:World):Calls Tryz.prog 275 #[.string (bs l)] w fun e w'=>e=.returned (.string (bs (60::(l ++ [62]))))∧w'=w:=by
 have e1:(⟨#[60]⟩:ByteArray)=bs [60]:=rfl
 have e2:(⟨#[62]⟩:ByteArray)=bs [62]:=rfl
 have s0:=bs_size l
 have s1:(bs [60]).size=1:=rfl
 have s2:(bs [62]).size=1:=rfl
 go_enter Tryz.func275,Tryz.ntmps275
 go_wp2
 all_goals first | omega | skip
 go_ret;exact ⟨by simp only [bs_app];rfl,rfl⟩
theorem spdf_any (l:By) (hl:l.length≤1000000000) (w:World):Calls Tryz.prog 271 #[.string (bs l)] w fun e w'=>e=.returned (.string (bs (40::(l ++ [41]))))∧w'=w:=by
 go_enter Tryz.func271,Tryz.ntmps271
 go_wp2_with (go_at_call 272;refine (sstr_any l hl _).mono ?_;rintro e w' ⟨rfl,rfl⟩)
 go_ret;exact ⟨rfl,rfl⟩
theorem hpdf_any (l:By) (hl:l.length≤1000000000) (w:World):Calls Tryz.prog 274 #[.string (bs l)] w fun e w'=>e=.returned (.string (bs (60::(l ++ [62]))))∧w'=w:=by
 go_enter Tryz.func274,Tryz.ntmps274
 go_wp2_with (go_at_call 275;refine (hstr_any l hl _).mono ?_;rintro e w' ⟨rfl,rfl⟩)
 go_ret;exact ⟨rfl,rfl⟩
end Go.Proofs.YtfkecmlmnhbmoaaGreatDoor
namespace Go.Proofs.YtfkecmlmnhbmoaaGreatDoor
open Go Go.RowKit
theorem encN_snoc:∀ (l:By) (c:UInt8),encN (l ++ [c])=encN l ++ (if needHex (c.toNat:Int) then [35,hexDig (c.toNat / 16),hexDig (c.toNat % 16)] else [c])
 | [],c=>by simp only [List.nil_append,encN]
 | d::l,c=>by
  simp only [List.cons_append,encN,encN_snoc l c]
  by_cases h:needHex (d.toNat:Int)=true
  ·rw [if_pos h,if_pos h];simp
  ·rw [if_neg h,if_neg h];simp
theorem hx_enc (c:UInt8):Lib.Hx.encode [c]=[hexDig (c.toNat / 16),hexDig (c.toNat % 16)]:=by
 have key:∀ n:Nat,n < 16→Lib.Hx.digit n=hexDig n:=by decide
 have:=c.toNat_lt
 rw [Lib.Hx.encode_cons,key _ (by omega),key _ (by omega)];rfl
theorem gr_below {w0 w w':World} (hg:w0.grownBy w none) (h:Below w0.heap.size w w'):w0.grownBy w' none :=
 ⟨h.os.trans hg.os,h.tape.trans hg.tape,h.output.trans hg.output,Nat.le_trans hg.size h.size,fun k hk _=>(h.block k (by have:=hg.size;omega)).trans (hg.block k hk (by simp))⟩
def EnI (l:By) (i:Nat) (rep:Bool) (pre rest:By):Prop:=l=pre ++ rest∧i=pre.length∧(rep=false→encN pre=pre)
set_option maxRecDepth 100000 in
set_option maxHeartbeats 40000000 in
theorem encname_any (l:By) (hl:l.length≤100000000) (w:World):Calls Tryz.prog 279 #[.string (bs l)] w fun e w'=>e=.returned (.string (bs (encN l)))∧w.grownBy w' none:=by
 obtain ⟨z,hz⟩:∃ z,z=bs l:=⟨_,rfl⟩
 have hzs:z.size=l.length:=by rw [hz,bs_size]
 rw [←hz]
 have Hz:=Lib.hid hz
 clear hz
 go_enter Tryz.func279,Tryz.ntmps279
 go_wp2_with fail
 go_loopg [3,5] l.length (fun g t3 t5 wr=>∃ (i:Nat) (rep:Bool) (pre rest:By),rest.length=g∧t3=.bool rep∧t5=.int .i64 i∧EnI l i rep pre rest∧BldAt wr w.heap.size (w.heap.size + 1) (if rep then encN pre else [])∧w.grownBy wr none)
 case atStart=>exact ⟨0,false,[],l,rfl,rfl,rfl,⟨rfl,rfl,fun _=>rfl⟩,BldAt.fresh w,gr_alloc (World.grownBy.refl _ _) _⟩
 case round =>
  obtain ⟨i,rep,pre,rest,hg,rfl,rfl,⟨hp,hi,hrep⟩,hB,hb⟩:=hrel
  have hple:pre.length + rest.length=l.length:=by rw [hp];simp
  cases rest with
  | nil =>
   have hlt:¬(i:Int) < z.size:=by rw [hzs];simp at hple;omega
   have hpre:pre=l:=by rw [hp];simp
   have Hb:=Lib.hid hb
   have HB:=Lib.hid hB
   clear hb hB hp hg
   cases rep
   ·have Hzk:=Lib.hid (show z=bs (encN l) by rw [Hz.out,←hpre,hrep rfl])
    clear hrep hple hzs hi hpre
    go_wp2_with fail
    go_ret
    exact ⟨by rw [Hzk.out];rfl,Hb.out⟩
   ·have Hpre:=Lib.hid hpre
    clear hrep hple hzs hi hpre
    go_wp2_with fail
    refine (wtoS_any wr w.heap.size _ _ HB.out).mono ?_
    rintro e w2 ⟨rfl,hb2⟩
    have Hb2:=Lib.hid hb2
    clear hb2
    go_wp2_with fail
    go_ret
    exact ⟨by simp [Hpre.out],gr_below Hb.out Hb2.out⟩
  | cons c rest =>
   have hlt:i < z.size:=by rw [hzs];simp at hple;omega
   have hlt2:(i:Int) < z.size:=by omega
   obtain ⟨hk0,hget0⟩:=bs_at (l:=l) (pre:=pre) (c:=c) (post:=rest) hp
   have hget:z[i]'hlt=c:=by simp only [Hz.out,hi];exact hget0
   have hex:z.extract 0 i=bs pre:=by rw [Hz.out,bs_extract,hp,hi];simp
   have hil:i < 100000000:=by simp at hple;omega
   have hel:(encN pre).length≤300000000:=by
    have:∀ q:By,(encN q).length≤3 * q.length:=by
     intro q
     induction q with
     | nil=>simp [encN]
     | cons d q ih=>simp only [encN];split<;>simp<;>omega
    have:=this pre
    omega
   have hsn:=encN_snoc pre c
   have Hp:=Lib.hid hp
   have Hi:=Lib.hid hi
   have Hrep:=Lib.hid hrep
   have Hg:=Lib.hid hg
   have Hb:=Lib.hid hb
   have HB:=Lib.hid hB
   have Hsn:=Lib.hid hsn
   have Hle:=Lib.hid (And.intro hel hil)
   clear hp hi hrep hg hb hB hsn hk0 hget0 hple hzs hel
   rcases Bool.eq_false_or_eq_true (needHex (c.toNat:Int)) with hn | hn
   ·rw [if_pos hn] at Hsn
    have hstep:∀ (wr:World),BldAt wr w.heap.size (w.heap.size + 1) (encN pre)→w.grownBy wr none→Calls Tryz.prog 215 #[.pointer (some ⟨w.heap.size,0,none⟩),.int .u8 35] wr fun e w'=>e=.returned .nilIface∧BldAt w' w.heap.size (w.heap.size + 1) (encN pre ++ [35])∧w.grownBy w' none:=fun wr hB hg=>by
     refine (wbyte_any wr w.heap.size _ (encN pre) 35 hB (by have:=Hle.out.1;omega)).mono ?_
     rintro e w2 ⟨rfl,hB2,hK2⟩
     exact ⟨rfl,hB2,gr_below hg hK2.1⟩
    have Hstep:=Lib.hid hstep
    have hstep2:∀ (wr:World) (g cap:Nat),wr.cell? ⟨g,0,none⟩=some (.int .u8 (c.toNat:Int))→Calls Tryz.prog 281 #[.slice (some ⟨g,0,none⟩) 1 cap] wr fun e w'=>e=.returned (.string (bs [hexDig (c.toNat / 16),hexDig (c.toNat % 16)]))∧Below wr.heap.size wr w':=fun wr g cap hc=>by
     have h:=Tryz.hex_EncodeToString_bytes g 0 cap [c] wr (fun i hi=>by
      have:i=0:=by simp at hi;exact hi
      subst this
      simpa using hc) (World.block_lt_of_cell? _ _ hc) (by simp)
     rw [hx_enc] at h
     exact h
    have Hstep2:=Lib.hid hstep2
    have hstep3:∀ (wr:World),BldAt wr w.heap.size (w.heap.size + 1) (encN pre ++ [35])→w.grownBy wr none→Calls Tryz.prog 217 #[.pointer (some ⟨w.heap.size,0,none⟩),.string (bs [hexDig (c.toNat / 16),hexDig (c.toNat % 16)])] wr fun e w'=>(∃ k,e=.returned (.tuple #[k,.nilIface]))∧BldAt w' w.heap.size (w.heap.size + 1) (encN (pre ++ [c]))∧w.grownBy w' none:=fun wr hB hg=>by
     refine (wstr_any wr w.heap.size _ (encN pre ++ [35]) [hexDig (c.toNat / 16),hexDig (c.toNat % 16)] hB (by have:=Hle.out.1;simp;omega)).mono ?_
     rintro e w2 ⟨he,hB2,hK2⟩
     refine ⟨he,?_,gr_below hg hK2.1⟩
     rw [Hsn.out]
     simpa using hB2
    have Hstep3:=Lib.hid hstep3
    obtain ⟨zh,hzh⟩:∃ z,z=bs [hexDig (c.toNat / 16),hexDig (c.toNat % 16)]:=⟨_,rfl⟩
    rw [←hzh] at Hstep2 Hstep3
    clear hstep hstep2 hstep3 hzh
    cases rep
    ·go_wp2_with fail
     refine (nhex_any _ _).mono ?_
     rintro e w2 ⟨rfl,hw⟩
     subst w2
     rw [hn]
     go_wp2_with fail
     refine (wstr_any wr w.heap.size _ [] pre HB.out (by have:=Hle.out.2;have:=Hi.out;simp;omega)).mono ?_
     rintro e w2 ⟨⟨k2,rfl⟩,hB2,hK2⟩
     have HB2:=Lib.hid (show BldAt w2 w.heap.size (w.heap.size + 1) (encN pre) by rw [Hrep.out (by trivial)];simpa using hB2)
     have Hb2:=Lib.hid (gr_below Hb.out hK2.1)
     clear hB2 hK2
     go_wp2_with fail
     refine (Hstep.out _ HB2.out Hb2.out).mono ?_
     rintro e w3 ⟨rfl,hB3,hg3⟩
     have HB3:=Lib.hid hB3
     have Hg3:=Lib.hid hg3
     clear hB3 hg3
     go_wp2_with fail
     refine (Hstep2.out _ w3.heap.size 1 (by rw [World.cell?_alloc_at _ _ _ _ (by simp)];rfl)).mono ?_
     rintro e w4 ⟨rfl,hb4⟩
     have hg34:w3.grownBy w4 none:=(gr_alloc (World.grownBy.refl w3 none) _).trans (gr_of_below hb4)
     have HB4:=Lib.hid (HB3.out.keep hg34 (fun k hk=>by cases hk))
     have Hg4:=Lib.hid (Hg3.out.trans hg34)
     clear hb4 hg34
     go_wp2_with fail
     refine (Hstep3.out _ HB4.out Hg4.out).mono ?_
     rintro e w5 ⟨⟨k5,rfl⟩,hB5,hg5⟩
     have HB5:=Lib.hid hB5
     have Hg5:=Lib.hid hg5
     clear hB5 hg5
     go_wp2_with fail
     go_roundg (gk - 1)
     case measure=>have:=Hg.out;simp at this;omega
     case rel=>exact ⟨i + 1,true,pre ++ [c],rest,by have:=Hg.out;simp at this;omega,rfl,by simp,⟨by rw [Hp.out];simp,by rw [Hi.out];simp,fun h=>by cases h⟩,by simp only [if_true];exact HB5.out,Hg5.out⟩
    ·go_wp2_with fail
     refine (nhex_any _ _).mono ?_
     rintro e w2 ⟨rfl,hw⟩
     subst w2
     rw [hn]
     have HB2:=Lib.hid (show BldAt wr w.heap.size (w.heap.size + 1) (encN pre) from HB.out)
     have Hb2:=Lib.hid Hb.out
     go_wp2_with fail
     refine (Hstep.out _ HB2.out Hb2.out).mono ?_
     rintro e w3 ⟨rfl,hB3,hg3⟩
     have HB3:=Lib.hid hB3
     have Hg3:=Lib.hid hg3
     clear hB3 hg3
     go_wp2_with fail
     refine (Hstep2.out _ w3.heap.size 1 (by rw [World.cell?_alloc_at _ _ _ _ (by simp)];rfl)).mono ?_
     rintro e w4 ⟨rfl,hb4⟩
     have hg34:w3.grownBy w4 none:=(gr_alloc (World.grownBy.refl w3 none) _).trans (gr_of_below hb4)
     have HB4:=Lib.hid (HB3.out.keep hg34 (fun k hk=>by cases hk))
     have Hg4:=Lib.hid (Hg3.out.trans hg34)
     clear hb4 hg34
     go_wp2_with fail
     refine (Hstep3.out _ HB4.out Hg4.out).mono ?_
     rintro e w5 ⟨⟨k5,rfl⟩,hB5,hg5⟩
     have HB5:=Lib.hid hB5
     have Hg5:=Lib.hid hg5
     clear hB5 hg5
     go_wp2_with fail
     go_roundg (gk - 1)
     case measure=>have:=Hg.out;simp at this;omega
     case rel=>exact ⟨i + 1,true,pre ++ [c],rest,by have:=Hg.out;simp at this;omega,rfl,by simp,⟨by rw [Hp.out];simp,by rw [Hi.out];simp,fun h=>by cases h⟩,by simp only [if_true];exact HB5.out,Hg5.out⟩
   ·rw [if_neg (by rw [hn];decide)] at Hsn
    cases rep
    ·go_wp2_with fail
     refine (nhex_any _ _).mono ?_
     rintro e w2 ⟨rfl,hw⟩
     subst w2
     rw [hn]
     go_wp2_with fail
     go_roundg (gk - 1)
     case measure=>have:=Hg.out;simp at this;omega
     case rel=>exact ⟨i + 1,false,pre ++ [c],rest,by have:=Hg.out;simp at this;omega,rfl,by simp,⟨by rw [Hp.out];simp,by rw [Hi.out];simp,fun _=>by rw [Hsn.out,Hrep.out (by trivial)]⟩,HB.out,Hb.out⟩
    ·go_wp2_with fail
     refine (nhex_any _ _).mono ?_
     rintro e w2 ⟨rfl,hw⟩
     subst w2
     rw [hn]
     go_wp2_with fail
     refine (wbyte_any wr w.heap.size _ (encN pre) c HB.out (by have:=Hle.out.1;omega)).mono ?_
     rintro e w2 ⟨rfl,hB2,hK2⟩
     have HB2:=Lib.hid hB2
     have Hb2:=Lib.hid (gr_below Hb.out hK2.1)
     clear hB2 hK2
     go_wp2_with fail
     go_roundg (gk - 1)
     case measure=>have:=Hg.out;simp at this;omega
     case rel=>exact ⟨i + 1,true,pre ++ [c],rest,by have:=Hg.out;simp at this;omega,rfl,by simp,⟨by rw [Hp.out];simp,by rw [Hi.out];simp,fun h=>by cases h⟩,by simp only [if_true];rw [Hsn.out];exact HB2.out,Hb2.out⟩
end Go.Proofs.YtfkecmlmnhbmoaaGreatDoor
