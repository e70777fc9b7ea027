/- The texts K8 K9 K10 D9 Q4 of the workbench, laid together. -/
import Derived.Test.YtfkecmlmnhbmoaaGreatDoorProg
import Derived.WalkKit
import Derived.WalkLawsBesides
import Derived.WalkSpells
import Derived.BigQuiet
import Derived.BigRegion
import Derived.Deep.QuietTactic
import Derived.Deep.RegionHeld3
import Derived.Deep.LoopGhost
import Derived.StillTailTactics
import Derived.Lib.Hide
import Derived.Laws.EntriesVeiled
import Derived.Test.YtfkecmlmnhbmoaaGreatDoorY25
import Derived.Test.YtfkecmlmnhbmoaaGreatDoorY32
import Derived.Test.YtfkecmlmnhbmoaaGreatDoorY35
import Derived.Test.YtfkecmlmnhbmoaaGreatDoorY38
set_option linter.unusedVariables false
set_option linter.unusedSimpArgs false
namespace Go.Proofs.YtfkecmlmnhbmoaaGreatDoor
open Go Go.RowKit
open Go.Maps
end Go.Proofs.YtfkecmlmnhbmoaaGreatDoor
namespace Go.Proofs.YtfkecmlmnhbmoaaGreatDoor
open Go Go.RowKit
open Go.Maps
theorem cells7_set6 {w:World} {b:Nat} {a0 a1 a2 a3 a4 a5 a6:Value} {t:TypeId} (h:w.heap[b]?=some (.cells #[a0,a1,a2,a3,a4,a5,a6] t (0,0))) (u:Value):(w.setCell ⟨b,6,none⟩ u).heap[b]?=some (.cells #[a0,a1,a2,a3,a4,a5,u] t (0,0)):=by
 simp [World.setCell,Array.getElem?_modify,h]
end Go.Proofs.YtfkecmlmnhbmoaaGreatDoor
namespace Go.Proofs.YtfkecmlmnhbmoaaGreatDoor
open Go Go.RowKit
open Go.Maps
end Go.Proofs.YtfkecmlmnhbmoaaGreatDoor
namespace Go.Proofs.YtfkecmlmnhbmoaaGreatDoor
open Go Go.RowKit
open Go.Maps
def HbPost (s:By) (w w':World) (e:Ending):Prop:=∃ (t:By) (b:Bool),e=.returned (.tuple #[.string (bs t),.bool b])∧w.grownBy w' none∧(b=true→t=hexT s∧∀ c∈s,0≤hexVal (c.toNat:Int))
set_option maxRecDepth 100000 in
set_option maxHeartbeats 40000000 in
theorem hexbytes_bad (s:By) (h:¬∀ c∈s,0≤hexVal (c.toNat:Int)) (hl:s.length≤1000000) (w:World):Calls Tryz.prog 34 #[.string (bs s)] w fun e w'=>HbPost s w w' e:=by
 have hat:∀ (i:Nat) (hi:i < (bs s).size),s[i]?=some ((bs s)[i]):=fun i hi=>by
  rw [bs_get];exact List.getElem?_eq_getElem _
 have hzl:(bs s).size=s.length:=bs_size s
 have hsz:(bs s).size≤1000000:=by rw [bs_size];exact hl
 obtain ⟨z0,hz⟩:∃ z,z=bs s:=⟨_,rfl⟩
 rw [←hz] at hat hsz hzl ⊢
 have Hat:=Lib.hid hat
 have Hzl:=Lib.hid hzl
 have Hh:=Lib.hid h
 clear hz hat hzl hl h
 go_enter Tryz.func34,Tryz.ntmps34
 go_wp2_with fail
 go_loopg [9] z0.size (fun g t9 wr=>∃ i,t9=.int .i64 (i:Nat)∧i≤z0.size∧g=z0.size - i∧wr=w∧∀ c∈s.take i,0≤hexVal (c.toNat:Int))
 case atStart=>exact ⟨0,rfl,Nat.zero_le _,rfl,rfl,by simp⟩
 case round =>
  obtain ⟨i,rfl,hi,hg,rfl,hall⟩:=hrel
  have Hg:=Lib.hid hg
  have Hall:=Lib.hid hall
  clear hg hall
  by_cases hiz:i < z0.size
  ·have h0:=Hat.out i hiz
   have hrg:=bi_range (z0[i])
   have hx:=hex_any ((z0[i]).toNat:Int) hrg.1 hrg.2
   obtain ⟨c,hc⟩:∃ c,z0[i]=c:=⟨_,rfl⟩
   rw [hc] at h0 hx
   have H0:=Lib.hid h0
   obtain ⟨hh,hhe⟩:∃ hh,hh=hexVal (c.toNat:Int):=⟨_,rfl⟩
   rw [←hhe] at hx
   have Hhe:=Lib.hid hhe
   have hnm:(i:Int) < z0.size:=by omega
   have hwi:IntKind.i64.wrap ((i:Int) + 1)=(i:Int) + 1:=IntWalk.i64_in _ (by omega)
   clear hrg h0 hhe
   by_cases hv:hh < 0
   ·go_wp2_with fail
    refine (hx _).mono ?_
    rintro e w2 ⟨rfl,hw2⟩
    subst w2
    go_wp2_with fail
    go_ret2
    exact ⟨[],false,rfl,World.grownBy.refl _ _,fun h=>by cases h⟩
   ·go_wp2_with fail
    refine (hx _).mono ?_
    rintro e w2 ⟨rfl,hw2⟩
    subst w2
    go_wp2_with fail
    go_roundg (z0.size - (i + 1))
    case measure=>rw [Hg.out];omega
    case rel =>
     refine ⟨i + 1,by simp,by omega,rfl,rfl,fun d hd=>?_⟩
     rw [List.take_add_one,H0.out] at hd
     rcases List.mem_append.1 hd with h | h
     ·exact Hall.out d h
     ·simp at h;subst h;rw [←Hhe.out];omega
  ·exfalso
   refine Hh.out fun c hc=>Hall.out c ?_
   rw [List.take_of_length_le (by rw [←Hzl.out];omega)]
   exact hc
theorem hexbytes_all (s:By) (hl:s.length≤1000000) (w:World):Calls Tryz.prog 34 #[.string (bs s)] w fun e w'=>HbPost s w w' e:=by
 by_cases h:∀ c∈s,0≤hexVal (c.toNat:Int)
 ·refine (hexbytes_any s (hexT s) h (hex_read h []) hl w).mono ?_
  rintro e w' ⟨rfl,hg⟩
  exact ⟨_,true,rfl,hg,fun _=>⟨rfl,h⟩⟩
 ·exact hexbytes_bad s h hl w
end Go.Proofs.YtfkecmlmnhbmoaaGreatDoor
namespace Go.Proofs.YtfkecmlmnhbmoaaGreatDoor
open Go Go.RowKit
open Go.Lib
theorem gr_grow (w:World) (k:Nat) (os:Array Obj):w.grownBy (Go.Sort.grow (w.drewN k) os) none:=by
 refine ⟨rfl,rfl,rfl,by simp [Go.Sort.grow],fun j hj _=>?_⟩
 simp only [Go.Sort.grow]
 rw [Array.getElem?_append_left (by simpa using hj)]
 rfl
theorem fmtb (b:Bool):(⟨(Lib.formatBool b).toArray⟩:ByteArray)=bs (if b then wTrue else wFalse):=by cases b<;>rfl
set_option maxRecDepth 100000 in
set_option maxHeartbeats 40000000 in
theorem pbool (b:Bool) (w:World):Calls Tryz.prog 260 #[.bool b] w fun e w'=>e=.returned (.string (bs (if b then wTrue else wFalse)))∧w'=w:=by
 have h0:=Tryz.strconv_FormatBool b w
 rw [fmtb] at h0
 have H0:=Lib.hid h0
 generalize bs (if b then wTrue else wFalse)=z at *
 clear h0
 have h1:Calls Tryz.prog 261 #[.bool b] w fun e w'=>e=.returned (.string z)∧w'=w:=by
  go_enter Tryz.func261,Tryz.ntmps261
  go_wp2_with fail
  refine H0.out.mono ?_
  rintro e w1 ⟨rfl,hw⟩
  subst w1
  go_wp2_with fail
  go_ret
  exact ⟨rfl,rfl⟩
 have H1:=Lib.hid h1
 clear h1
 go_enter Tryz.func260,Tryz.ntmps260
 go_wp2_with fail
 refine H1.out.mono ?_
 rintro e w1 ⟨rfl,hw⟩
 subst w1
 go_wp2_with fail
 go_ret
 exact ⟨rfl,rfl⟩
theorem itoa_any (n:Int) (h0:-9223372036854775808≤n) (h1:n≤9223372036854775807) (W0 w:World) (hT:TabIs Tryz.prog W0 "internal/strconv.uint64pow10" .u64 pow10Tab) (hE:Env W0 w):Calls Tryz.prog 110 #[.int .i64 n] w fun e w'=>e=.returned (.string (bs (Lib.itoa n)))∧w.grownBy w' none:=by
 refine (Tryz.strconv_Itoa n h0 h1 w (tab_env hT hE)).mono ?_
 rintro e w' ⟨rfl,k,os,rfl⟩
 exact ⟨rfl,gr_grow w k os⟩
set_option maxRecDepth 100000 in
set_option maxHeartbeats 40000000 in
theorem pint (n:Int) (h0:-9223372036854775808≤n) (h1:n≤9223372036854775807) (W0 w:World) (hT:TabIs Tryz.prog W0 "internal/strconv.uint64pow10" .u64 pow10Tab) (hE:Env W0 w):Calls Tryz.prog 265 #[.int .i64 n] w fun e w'=>e=.returned (.string (bs (Lib.itoa n)))∧w.grownBy w' none:=by
 have H0:=Lib.hid (itoa_any n h0 h1 W0 w hT hE)
 clear hT hE
 have h1:Calls Tryz.prog 266 #[.int .i64 n] w fun e w'=>e=.returned (.string (bs (Lib.itoa n)))∧w.grownBy w' none:=by
  generalize bs (Lib.itoa n)=z at *
  go_enter Tryz.func266,Tryz.ntmps266
  go_wp2_with fail
  refine H0.out.mono ?_
  rintro e w1 ⟨rfl,hg⟩
  have Hg:=Lib.hid hg
  clear hg
  go_wp2_with fail
  go_ret
  exact ⟨rfl,Hg.out⟩
 have H1:=Lib.hid h1
 generalize bs (Lib.itoa n)=z at *
 clear h1 H0
 go_enter Tryz.func265,Tryz.ntmps265
 go_wp2_with fail
 refine H1.out.mono ?_
 rintro e w1 ⟨rfl,hg⟩
 have Hg:=Lib.hid hg
 clear hg
 go_wp2_with fail
 go_ret
 exact ⟨rfl,Hg.out⟩
set_option maxRecDepth 100000 in
set_option maxHeartbeats 40000000 in
theorem preal (x:Nat) (t:By) (W0 w:World) (hf:FfC W0 x t) (hE:Env W0 w):Calls Tryz.prog 268 #[.float .f64 x] w fun e w'=>e=.returned (.string (bs t))∧w.grownBy w' none:=by
 have H0:=Lib.hid (hf w hE)
 clear hf hE
 have h1:Calls Tryz.prog 269 #[.float .f64 x] w fun e w'=>e=.returned (.float .f64 x)∧w'=w:=by
  go_enter Tryz.func269,Tryz.ntmps269
  go_wp2_with fail
  go_ret
  exact ⟨rfl,rfl⟩
 have H1:=Lib.hid h1
 generalize bs t=z at *
 clear h1
 go_enter Tryz.func268,Tryz.ntmps268
 go_wp2_with fail
 refine H1.out.mono ?_
 rintro e w1 ⟨rfl,hw⟩
 subst w1
 go_wp2_with fail
 refine H0.out.mono ?_
 rintro e w1 ⟨rfl,hg⟩
 have Hg:=Lib.hid hg
 clear hg
 go_wp2_with fail
 go_ret
 exact ⟨rfl,Hg.out⟩
set_option maxRecDepth 100000 in
set_option maxHeartbeats 40000000 in
theorem pname (s:By) (hl:s.length≤1000000) (w:World):Calls Tryz.prog 277 #[.string (bs s)] w fun e w'=>e=.returned (.string (bs (47::(if s=[] then [32] else encN s))))∧w.grownBy w' none:=by
 have e1:(⟨#[47]⟩:ByteArray)=bs [47]:=rfl
 have e2:(⟨#[32]⟩:ByteArray)=bs [32]:=rfl
 have hencl:(encN s).length≤3 * s.length:=by
  clear hl
  induction s with
  | nil=>simp [encN]
  | cons d q ih=>simp only [encN];split<;>simp<;>omega
 by_cases hs:s=[]
 ·subst hs
  have ha:bs [47] ++ bs [32]=bs [47,32]:=rfl
  have hz:¬(0:Int) < (bs []).size:=by rw [bs_size];simp
  have hn1:¬9223372036854775807 < (bs [47]).size + (bs [32]).size:=by rw [bs_size,bs_size];simp
  rw [if_pos rfl]
  generalize bs []=z0 at *
  generalize bs [47,32]=z1 at *
  go_enter Tryz.func277,Tryz.ntmps277
  go_wp2_with fail
  go_ret
  exact ⟨rfl,World.grownBy.refl _ _⟩
 ·rw [if_neg hs]
  have ha:bs [47] ++ bs (encN s)=bs (47::encN s):=bs_app [47] (encN s)
  have hz:(0:Int) < (bs s).size:=by rw [bs_size];have:=List.length_pos_iff.2 hs;omega
  have hn1:¬9223372036854775807 < (bs [47]).size + (bs (encN s)).size:=by rw [bs_size,bs_size];simp;omega
  have H0:=Lib.hid (encname_any s (by omega) w)
  generalize bs (47::encN s)=z1 at *
  generalize bs (encN s)=z2 at *
  generalize bs s=z0 at *
  clear hs hencl
  go_enter Tryz.func277,Tryz.ntmps277
  go_wp2_with fail
  refine H0.out.mono ?_
  rintro e w1 ⟨rfl,hg⟩
  have Hg:=Lib.hid hg
  clear hg
  go_wp2_with fail
  go_ret
  exact ⟨rfl,Hg.out⟩
end Go.Proofs.YtfkecmlmnhbmoaaGreatDoor
