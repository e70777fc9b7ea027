/- The texts F17 G14 G15 G17 G16 J10 of the workbench, laid together. -/
import Derived.Test.YtfkecmlmnhbmoaaGreatDoorProg
import Derived.WalkKit
import Derived.WalkLawsBesides
import Derived.WalkSpells
import Derived.BigQuiet
import Derived.BigRegion
import Derived.Deep.QuietTactic
import Derived.Deep.RegionHeld3
import Derived.Deep.LoopGhost
import Derived.StillTailTactics
import Derived.Lib.Hide
import Derived.Laws.EntriesVeiled
import Derived.LaidEqlPtr
import Derived.Lib.ItoaMem
import Derived.Test.YtfkecmlmnhbmoaaGreatDoorY9
import Derived.Test.YtfkecmlmnhbmoaaGreatDoorY20
import Derived.Test.YtfkecmlmnhbmoaaGreatDoorY24
import Derived.Test.YtfkecmlmnhbmoaaGreatDoorY25
set_option linter.unusedVariables false
set_option linter.unusedSimpArgs false
namespace Go.Proofs.YtfkecmlmnhbmoaaGreatDoor
open Go Go.RowKit
set_option maxRecDepth 100000 in
set_option maxHeartbeats 40000000 in
theorem ex_any (W0:World) (hF:FInit2 W0) (hF3:∀ fb fo (i:Nat) x,(∃ fc,W0.cell? ⟨20,0,Option.none⟩=some (.slice (some ⟨fb,fo,Option.none⟩) 23 fc))→i < 23→W0.cell? ⟨fb,fo + i,Option.none⟩=some (.float .f64 x)→∃ s m j,FloatKind.f64.format.read x=.number s m j∧m≠0) (M:Nat) (hM:M < 18446744073709551616) (p:Int) (hp1:-100≤p) (hp2:p≤20) (ng:Bool):∃ (x:Nat) (ok:Bool),(ok=true→nnF x)∧∀ w:World,Env W0 w→Calls Tryz.prog 153 #[.int .u64 M,.int .i64 p,.bool ng] w fun e w'=>e=.returned (.tuple #[.float .f64 x,.bool ok])∧w'=w:=by
 obtain ⟨fb,fo,fc,f0,f1⟩:=hF.p64
 have hf0:=hF.f0
 rcases Bool.eq_false_or_eq_true ((M:Int) / 4503599627370496 != 0) with hm | hm
 ·refine ⟨0,false,by simp,fun w hE=>?_⟩
  have e0:=hE.cell hf0
  go_enter Tryz.func153,Tryz.ntmps153
  go_wp2_with fail
  go_ret2
  exact ⟨rfl,rfl⟩
 ·have hM53 : M < 9007199254740992 := by have h1 := hm; rw [bne_eq_false_iff_eq] at h1; omega
  have hNF:=isNumF_ofInt hM53
  have hNG:=isNumF_neg (ofInt_lt hM53)
  obtain ⟨F,hFF⟩:∃ F,floatOfInt .f64 (M:Int)=F:=⟨_,rfl⟩
  rw [hFF] at hNF hNG
  obtain ⟨G,hG⟩:∃ G,G=Op.negFloat .f64 F:=⟨_,rfl⟩
  rw [←hG] at hNG
  have hneg:∀ w:World,(Op.unary .neg (.float .f64 F)).run Tryz.prog w=.ok (.float .f64 G) w:=by intro w;rw [hG];rfl
  clear hG
  by_cases hp0:p=0
  ·subst hp0
   cases ng
   all_goals
    apply Exists.intro
    refine ⟨true,?_,fun w hE=>?_⟩
    rotate_left
    have e0:=hE.cell hf0
    go_enter Tryz.func153,Tryz.ntmps153
    go_wp2_with fail
    go_ret2
    exact ⟨rfl,rfl⟩
    first | exact nnF_num hNF | exact nnF_num hNG | (intro _;first | exact nnF_num hNF | exact nnF_num hNG)
  ·have hpb:(p == 0)=false:=by simpa using hp0
   by_cases hpos:0 < p
   ·obtain ⟨i,rfl⟩:∃ i:Nat,p=i:=⟨p.toNat,by omega⟩
    obtain ⟨y,hy⟩:=f1 i (by omega)
    obtain ⟨ys,ym,yj,hy2,hy3⟩:=hF3 fb fo i y ⟨fc,f0⟩ (by omega) hy
    cases ng
    ·obtain ⟨r,hr,hrn⟩:=mul_some hNF ⟨_,_,_,hy2⟩
     have hmul:∀ w:World,(binOp .mul 22 (.float .f64 (F)) (.float .f64 y)).run Tryz.prog w=.ok (.float .f64 r) w:=fun w=>run_float_arith w .mul 22 .f64 _ _ r hr
     have hok9:∀ a b:Bool,(((if FloatKind.f64.format.order (F) 4831355200913801216=some Ordering.gt then false else if FloatKind.f64.format.order (F) 14054727237768577024=some Ordering.lt then false else true):Bool)=true)→nnF (if FloatKind.f64.format.order (F) 4831355200913801216=some Ordering.gt then F else if FloatKind.f64.format.order (F) 14054727237768577024=some Ordering.lt then F else r):=fun _ _ h=>by
      split at h
      ·exact absurd h (by simp)
      ·rename_i g1
       split at h
       ·exact absurd h (by simp)
       ·rename_i g2
        rw [if_neg g1,if_neg g2];exact hrn
     clear hr hNF hNG hy2
     refine ⟨if FloatKind.f64.format.order (F) 4831355200913801216=some Ordering.gt then F else if FloatKind.f64.format.order (F) 14054727237768577024=some Ordering.lt then F else r,if FloatKind.f64.format.order (F) 4831355200913801216=some Ordering.gt then false else if FloatKind.f64.format.order (F) 14054727237768577024=some Ordering.lt then false else true,hok9 true true,fun w hE=>?_⟩
     clear hok9 hrn
     have e0:=hE.cell hf0
     have e1:=hE.cell f0
     have e2:=hE.cell hy
     generalize hX:(if FloatKind.f64.format.order (F) 4831355200913801216=some Ordering.gt then F else if FloatKind.f64.format.order (F) 14054727237768577024=some Ordering.lt then F else r)=X
     generalize hO:(if FloatKind.f64.format.order (F) 4831355200913801216=some Ordering.gt then false else if FloatKind.f64.format.order (F) 14054727237768577024=some Ordering.lt then false else true)=O
     have HX:=Lib.hid hX;clear hX
     have HO:=Lib.hid hO;clear hO
     go_enter Tryz.func153,Tryz.ntmps153
     go_wp2_with fail
     ·go_ret2
      rename_i h9
      rw [←HX.out,←HO.out,if_pos h9,if_pos h9]
      exact ⟨rfl,rfl⟩
     ·go_ret2
      rename_i h9 h8
      clear hneg hmul e0 e1 e2
      rw [←HX.out,←HO.out]
      simp [h9] at h8
      simp [h8,h9]
     ·go_ret2
      rename_i h9 h8
      clear hneg hmul e0 e1 e2
      rw [←HX.out,←HO.out]
      simp [h9] at h8
      simp [h8,h9]
    ·obtain ⟨r,hr,hrn⟩:=mul_some hNG ⟨_,_,_,hy2⟩
     have hmul:∀ w:World,(binOp .mul 22 (.float .f64 (G)) (.float .f64 y)).run Tryz.prog w=.ok (.float .f64 r) w:=fun w=>run_float_arith w .mul 22 .f64 _ _ r hr
     have hok9:∀ a b:Bool,(((if FloatKind.f64.format.order (G) 4831355200913801216=some Ordering.gt then false else if FloatKind.f64.format.order (G) 14054727237768577024=some Ordering.lt then false else true):Bool)=true)→nnF (if FloatKind.f64.format.order (G) 4831355200913801216=some Ordering.gt then G else if FloatKind.f64.format.order (G) 14054727237768577024=some Ordering.lt then G else r):=fun _ _ h=>by
      split at h
      ·exact absurd h (by simp)
      ·rename_i g1
       split at h
       ·exact absurd h (by simp)
       ·rename_i g2
        rw [if_neg g1,if_neg g2];exact hrn
     clear hr hNF hNG hy2
     refine ⟨if FloatKind.f64.format.order (G) 4831355200913801216=some Ordering.gt then G else if FloatKind.f64.format.order (G) 14054727237768577024=some Ordering.lt then G else r,if FloatKind.f64.format.order (G) 4831355200913801216=some Ordering.gt then false else if FloatKind.f64.format.order (G) 14054727237768577024=some Ordering.lt then false else true,hok9 true true,fun w hE=>?_⟩
     clear hok9 hrn
     have e0:=hE.cell hf0
     have e1:=hE.cell f0
     have e2:=hE.cell hy
     generalize hX:(if FloatKind.f64.format.order (G) 4831355200913801216=some Ordering.gt then G else if FloatKind.f64.format.order (G) 14054727237768577024=some Ordering.lt then G else r)=X
     generalize hO:(if FloatKind.f64.format.order (G) 4831355200913801216=some Ordering.gt then false else if FloatKind.f64.format.order (G) 14054727237768577024=some Ordering.lt then false else true)=O
     have HX:=Lib.hid hX;clear hX
     have HO:=Lib.hid hO;clear hO
     go_enter Tryz.func153,Tryz.ntmps153
     go_wp2_with fail
     ·go_ret2
      rename_i h9
      rw [←HX.out,←HO.out,if_pos h9,if_pos h9]
      exact ⟨rfl,rfl⟩
     ·go_ret2
      rename_i h9 h8
      clear hneg hmul e0 e1 e2
      rw [←HX.out,←HO.out]
      simp [h9] at h8
      simp [h8,h9]
     ·go_ret2
      rename_i h9 h8
      clear hneg hmul e0 e1 e2
      rw [←HX.out,←HO.out]
      simp [h9] at h8
      simp [h8,h9]
   ·by_cases h22:-22≤p
    ·obtain ⟨i,hi⟩:∃ i:Nat,-p=i:=⟨(-p).toNat,by omega⟩
     obtain ⟨y,hy⟩:=f1 i (by omega)
     have hpn:p < 0:=by omega
     have hy9:=hF3 fb fo i y ⟨fc,f0⟩ (by omega) hy
     clear hpos
     cases ng
     ·obtain ⟨r,hr,hrn⟩:=div_some hNF hy9
      have hmul:∀ w:World,(binOp .quo 22 (.float .f64 (F)) (.float .f64 y)).run Tryz.prog w=.ok (.float .f64 r) w:=fun w=>run_float_arith w .quo 22 .f64 _ _ r hr
      clear hr hNF hNG hy9
      refine ⟨r,true,fun _=>hrn,fun w hE=>?_⟩
      clear hrn
      have e0:=hE.cell hf0
      have e1:=hE.cell f0
      have e2:=hE.cell hy
      go_enter Tryz.func153,Tryz.ntmps153
      go_wp2_with fail
      go_ret2
      exact ⟨rfl,rfl⟩
     ·obtain ⟨r,hr,hrn⟩:=div_some hNG hy9
      have hmul:∀ w:World,(binOp .quo 22 (.float .f64 (G)) (.float .f64 y)).run Tryz.prog w=.ok (.float .f64 r) w:=fun w=>run_float_arith w .quo 22 .f64 _ _ r hr
      clear hr hNF hNG hy9
      refine ⟨r,true,fun _=>hrn,fun w hE=>?_⟩
      clear hrn
      have e0:=hE.cell hf0
      have e1:=hE.cell f0
      have e2:=hE.cell hy
      go_enter Tryz.func153,Tryz.ntmps153
      go_wp2_with fail
      go_ret2
      exact ⟨rfl,rfl⟩
    ·have hpn:p < 0:=by omega
     have h22':p < -22:=by omega
     clear h22 hpos
     cases ng
     ·refine ⟨F,false,by simp,fun w hE=>?_⟩
      have e0:=hE.cell hf0
      go_enter Tryz.func153,Tryz.ntmps153
      go_wp2_with fail
      go_ret2
      exact ⟨rfl,rfl⟩
     ·refine ⟨G,false,by simp,fun w hE=>?_⟩
      have e0:=hE.cell hf0
      go_enter Tryz.func153,Tryz.ntmps153
      go_wp2_with fail
      go_ret2
      exact ⟨rfl,rfl⟩
end Go.Proofs.YtfkecmlmnhbmoaaGreatDoor
namespace Go.Proofs.YtfkecmlmnhbmoaaGreatDoor
open Go Go.RowKit
end Go.Proofs.YtfkecmlmnhbmoaaGreatDoor
namespace Go.Proofs.YtfkecmlmnhbmoaaGreatDoor
open Go Go.RowKit
structure ErrAB (W0:World) (a b:Addr) (ca cb:Array Value):Prop where
 syn:W0.cell? ⟨2,0,Option.none⟩=some (.iface 233 (.pointer (some a)))
 ran:W0.cell? ⟨3,0,Option.none⟩=some (.iface 233 (.pointer (some b)))
 ne:a≠b
 ha:∃ t,W0.heap[a.block]?=some (.cells ca t (0,0))
 hb:∃ t,W0.heap[b.block]?=some (.cells cb t (0,0))
end Go.Proofs.YtfkecmlmnhbmoaaGreatDoor
namespace Go.Proofs.YtfkecmlmnhbmoaaGreatDoor
open Go Go.RowKit
set_option maxRecDepth 100000 in
set_option maxHeartbeats 40000000 in
theorem newref_any (i g:Int) (w:World):Calls Tryz.prog 38 #[.int .i64 i,.int .i64 g] w fun e w'=>e=.returned (.pointer (some ⟨w.heap.size,0,none⟩))∧w'=w.alloc (.cells #[.int .i64 i,.int .i64 g] 73 (0,0)):=by
 go_enter Tryz.func38,Tryz.ntmps38
 go_wp2
 go_ret
 exact ⟨rfl,rfl⟩
end Go.Proofs.YtfkecmlmnhbmoaaGreatDoor
namespace Go.Proofs.YtfkecmlmnhbmoaaGreatDoor
open Go Go.RowKit
theorem bs_append (a b:By):bs a ++ bs b=bs (a ++ b):=by
 apply ByteArray.ext
 simp [bs]
end Go.Proofs.YtfkecmlmnhbmoaaGreatDoor
namespace Go.Proofs.YtfkecmlmnhbmoaaGreatDoor
open Go Go.RowKit
open Go.Sort Go.Lib
def sdL (d:Nat):By:=(decDigits d).take (trimN (decDigits d) (nDigits d))
theorem nDigits_le20 {d:Nat} (h:d < 18446744073709551616):nDigits d≤20:=by
 have h1:=decDigits_length d
 have h2:=dec_len 19 d (by omega)
 omega
theorem sdL_ds (d:Nat):isDs (sdL d):=fun c hc=>dec_dig d c (List.mem_of_mem_take hc)
theorem sdL_len {d:Nat} (h:d < 18446744073709551616):(sdL d).length=trimN (decDigits d) (nDigits d)∧(sdL d).length≤20:=by
 have h1:=trimN_le (decDigits d) (nDigits d)
 have h2:=nDigits_le20 h
 unfold sdL
 rw [List.length_take,decDigits_length]
 omega
def Buf24 (w:World) (b:Nat):Prop:=w.heap[b]?=some (.cells (Array.replicate 24 (.int .u8 0)) 185 (0,0))
set_option maxRecDepth 100000 in
set_option maxHeartbeats 40000000 in
theorem sd_any (d:Nat) (hd1:1≤d) (hd:d < 18446744073709551616) (p:Int) (hp1:-1000≤p) (hp2:p≤1000) (w:World) (b:Nat) (hb:Buf24 w b) :
  Calls Tryz.prog 118 #[.slice (some ⟨b,0,none⟩) 24 24,.int .u64 d,.int .i64 p,.int .i64 (nDigits d:Nat)] w fun e w'=>e=.returned (.tuple #[.int .i64 ((nDigits d:Nat) + p),.int .i64 ((sdL d).length:Nat)]) ∧
   (∀ (i:Nat) c,(sdL d)[i]?=some c→w'.cell? ⟨b,i,none⟩=some (.int .u8 (c.toNat:Int)))∧w.grownBy w' (some b)∧w'.heap.size=w.heap.size:=by
 have hn20:=nDigits_le20 hd
 have hlen:=decDigits_length d
 obtain ⟨nd,hnd⟩:∃ nd,nd=nDigits d:=⟨_,rfl⟩
 have hH:Holds (fun (b:UInt8)=>Value.int .u8 (b.toNat:Int)) w b 0 (Array.replicate nd (0:UInt8)):=by
  intro j hj
  have hj2:j < nd:=by simpa using hj
  unfold Buf24 at hb
  constructor
  ·simp [World.cell?,hb,show j < 24 by omega,hj2]
  ·simp [World.frozen?,hb]
 have hfb:=Tryz.internal_strconv_formatBase10 b 0 24 d (Array.replicate nd (0:UInt8)) w hH (by rw [Array.size_replicate,hnd];exact lt_pow_nDigits d) hd (by simp;omega)
 rw [Array.size_replicate] at hfb
 rw [←hnd] at hn20 hlen ⊢
 have hsd:=(sdL_len hd).1
 rw [←hnd] at hsd
 rw [hsd]
 have HB:=Lib.hid hb
 have HH:=Lib.hid hH
 have Hnd:=Lib.hid hnd
 have Hlen:=Lib.hid hlen
 have Hsd:=Lib.hid hsd
 have Hfb:=Lib.hid hfb
 clear hb hH hnd hlen hfb hsd
 go_enter Tryz.func118,Tryz.ntmps118
 go_wp2_with fail
 refine Hfb.out.mono ?_
 rintro e w1 ⟨rfl,n1,v',dk,hw1,hI⟩
 have hdk:∀ (i:Nat) c,(decDigits d)[i]?=some c→w1.cell? ⟨b,i,none⟩=some (.int .u8 (c.toNat:Int)):=by
  intro i c hc
  obtain ⟨hi,e⟩:=List.getElem?_eq_some_iff.1 hc
  have hi2:i < nd:=by rw [←Hlen.out];exact hi
  have hz:=hI.size
  have h1:=cell?_putRow (fun (b:UInt8)=>Value.int .u8 (b.toNat:Int)) w b 0 (Array.replicate nd (0:UInt8)) dk HH.out (by rw [hz];simp) i (by rw [hz];exact hi2)
  rw [Nat.zero_add] at h1
  have h2:w1.cell? ⟨b,i,none⟩=(putRow (fun (b:UInt8)=>Value.int .u8 (b.toNat:Int)) w b 0 dk).cell? ⟨b,i,none⟩:=by rw [hw1];rfl
  rw [h2,h1]
  have h3:=row_is_numeral (by rw [Hnd.out] at hI;exact hI) i hi
  rw [←h3,e]
 have hgr:w.grownBy w1 (some b)∧w1.heap.size=w.heap.size:=by
  rw [hw1]
  have key:∀ f,w.grownBy (mapBlock w b f) (some b)∧(mapBlock w b f).heap.size=w.heap.size:=by
   intro f
   constructor
   ·refine ⟨rfl,rfl,rfl,by simp [mapBlock],fun k hk hne=>?_⟩
    simp only [mapBlock]
    rw [Array.getElem?_modify,if_neg (fun e=>hne (by rw [e]))]
   ·simp [mapBlock]
  exact ⟨gr_drewN (key _).1 _,(key _).2⟩
 have Hdk:=Lib.hid hdk
 have Hgr:=Lib.hid hgr
 clear hw1 hI hdk hgr HB HH Hfb
 go_wp2_with fail
 have HT:=Lib.hid (show ∃ T,T=trimN (decDigits d) nd from ⟨_,rfl⟩)
 go_loopg [3] nd (fun g t3 wr=>∃ (k:Nat) (z:Int),t3=.int .i64 z∧z=k∧k≤nd∧trimN (decDigits d) k=trimN (decDigits d) nd∧g=k∧w1=wr)
 case atStart=>exact ⟨nd,_,rfl,rfl,Nat.le_refl _,rfl,rfl,rfl⟩
 case round =>
  obtain ⟨k,z,rfl,hz,hk,ht,hg,rfl⟩:=hrel
  have Hg:=Lib.hid hg
  have Ht:=Lib.hid ht
  clear hg ht
  cases k with
  | zero =>
   have hz0:¬(0 < z):=by omega
   have Hz:=Lib.hid hz
   clear hz
   go_wp2_with fail
   go_ret2
   refine ⟨?_,fun i c hc=>?_,Hgr.out⟩
   ·rw [←Ht.out,Hz.out];rfl
   ·refine Hdk.out i c ?_
    unfold sdL at hc
    rw [List.getElem?_take] at hc
    split at hc
    ·exact hc
    ·simp at hc
  | succ j =>
   have hz0:0 < z:=by omega
   have hz1:z≤20:=by omega
   have hzt:(z - 1).toNat=j:=by omega
   have Hz:=Lib.hid hz
   obtain ⟨c,hc⟩:∃ c,(decDigits d)[j]?=some c:=⟨_,List.getElem?_eq_getElem (by rw [Hlen.out];omega)⟩
   have hcell:=Hdk.out j c hc
   have hgd:(decDigits d).getD j 0=c:=by rw [List.getD_eq_getElem?_getD,hc];rfl
   have Hgd:=Lib.hid hgd
   clear hz hc hgd
   by_cases h48:c.toNat=48
   ·have hb8:((c.toNat:Int) == 48)=true:=by simp;omega
    have Hk:=Lib.hid (show trimN (decDigits d) j=trimN (decDigits d) nd by rw [←Ht.out];simp only [trimN];rw [Hgd.out,if_pos h48])
    clear h48
    go_wp2_with fail
    go_roundg j
    case measure=>rw [Hg.out];omega
    case rel=>exact ⟨j,_,rfl,by have:=Hz.out;omega,by omega,Hk.out,rfl,rfl⟩
   ·have hb8:((c.toNat:Int) == 48)=false:=by simp;omega
    have Hk:=Lib.hid (show j + 1=trimN (decDigits d) nd by rw [←Ht.out];simp only [trimN];rw [Hgd.out,if_neg h48])
    clear h48
    go_wp2_with fail
    go_ret2
    refine ⟨?_,fun i c hc=>?_,Hgr.out⟩
    ·rw [←Hk.out,Hz.out];rfl
    ·refine Hdk.out i c ?_
     unfold sdL at hc
     rw [List.getElem?_take] at hc
     split at hc
     ·exact hc
     ·simp at hc
end Go.Proofs.YtfkecmlmnhbmoaaGreatDoor
