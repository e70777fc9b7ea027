/- The texts F16 P14 G4 J5 J6 of the workbench, laid together. -/
import Derived.Test.YtfkecmlmnhbmoaaGreatDoorProg
import Derived.WalkKit
import Derived.WalkLawsBesides
import Derived.WalkSpells
import Derived.BigQuiet
import Derived.BigRegion
import Derived.Deep.QuietTactic
import Derived.Deep.RegionHeld3
import Derived.Deep.LoopGhost
import Derived.StillTailTactics
import Derived.Lib.Hide
import Derived.Laws.EntriesVeiled
import Derived.Test.YtfkecmlmnhbmoaaGreatDoorY19
set_option linter.unusedVariables false
set_option linter.unusedSimpArgs false
namespace Go.Proofs.YtfkecmlmnhbmoaaGreatDoor
open Go Go.RowKit
set_option maxRecDepth 100000 in
set_option maxHeartbeats 40000000 in
theorem l2p_any (w:World) (p:Int) (h1:-10000≤p) (h2:p≤10000):Calls Tryz.prog 161 #[.int .i64 p] w fun e w'=>e=.returned (.int .i64 (p * 108853 / 32768))∧w'=w:=by
 go_enter Tryz.func161,Tryz.ntmps161
 go_wp2_with fail
 go_ret
 exact ⟨rfl,rfl⟩
set_option maxRecDepth 100000 in
set_option maxHeartbeats 40000000 in
theorem umn_any (w:World):Calls Tryz.prog 169 #[.int .u64 9007199254740992] w fun e w'=>e=.returned (.int .u64 36028797018963966)∧w'=w:=by
 go_enter Tryz.func169,Tryz.ntmps169
 go_wp2_with fail
 go_ret
 exact ⟨rfl,rfl⟩
set_option maxRecDepth 100000 in
set_option maxHeartbeats 40000000 in
theorem b2i_t (w:World):Calls Tryz.prog 168 #[.bool true] w fun e w'=>e=.returned (.int .i64 1)∧w'=w:=by
 go_enter Tryz.func168,Tryz.ntmps168
 go_wp2_with fail
 go_ret
 exact ⟨rfl,rfl⟩
set_option maxRecDepth 100000 in
set_option maxHeartbeats 40000000 in
theorem b2i_f (w:World):Calls Tryz.prog 168 #[.bool false] w fun e w'=>e=.returned (.int .i64 0)∧w'=w:=by
 go_enter Tryz.func168,Tryz.ntmps168
 go_wp2_with fail
 go_ret
 exact ⟨rfl,rfl⟩
theorem wr4_range (n:Int) (h0:0≤n) (h1:n≤36028797018963969):0≤IntKind.u64.wrap n / 4∧IntKind.u64.wrap n / 4≤9007199254740992:=by rw [IntKind.wrap_u64];omega
set_option maxRecDepth 100000 in
set_option maxHeartbeats 40000000 in
theorem rnd_ex (u:Int) (h0:0≤u) (h1:u≤36028797018963967):∃ v:Int,(0≤v∧v≤9007199254740992)∧∀ w:World,Calls Tryz.prog 166 #[.int .u64 u] w fun e w'=>e=.returned (.int .u64 v)∧w'=w:=by
 apply Exists.intro
 refine ⟨?_,fun w=>?_⟩
 rotate_left
 go_enter Tryz.func166,Tryz.ntmps166
 go_wp2_with fail
 go_ret
 exact ⟨rfl,rfl⟩
 have hx:0≤bits .and .u64 (u / 4) 1∧bits .and .u64 (u / 4) 1≤1:=u64_and_le (u / 4) 1 (by decide)
 refine wr4_range _ ?_ ?_<;>omega
set_option maxRecDepth 100000 in
set_option maxHeartbeats 40000000 in
theorem pf64_ex (W0:World) (hF:FInit2 W0) (d:Nat) (hd:d < 18446744073709551616) (p:Int) (hp1:-100≤p) (hp2:p≤20) (sg:Int) (hs:sg=0∨sg=9223372036854775808) :
  ∃ x:Nat,nnF x∧∀ w:World,Env W0 w→Calls Tryz.prog 154 #[.int .u64 d,.int .i64 p,.int .u64 sg] w fun e w'=>e=.returned (.tuple #[.float .f64 x,.nilIface])∧w.grownBy w' none:=by
 have hs0:0≤sg:=by omega
 have hs1:sg≤18446744073709551615:=by omega
 have Hs:=Lib.hid hs
 clear hs
 obtain ⟨i,hi⟩:∃ i:Nat,p + 348=i:=⟨(p + 348).toNat,by omega⟩
 obtain ⟨hi9,lo9,hh,hl,t0,t1⟩:=hF.p10 i (by omega)
 obtain ⟨bl,hbl⟩:∃ bl,bl=Lib.bitLen d:=⟨_,rfl⟩
 have hb64:bl≤64:=by rw [hbl];exact Lib.bitLen_le d 64 (Nat.le_refl _) (by omega)
 obtain ⟨X,hX⟩:∃ X:Nat,X < 18446744073709551616∧IntKind.u64.wrap ((d:Int) * 2 ^ (64 - bl))=X:=by
  refine ⟨(IntKind.u64.wrap ((d:Int) * 2 ^ (64 - bl))).toNat,?_,?_⟩
  all_goals rw [IntKind.wrap_u64];omega
 obtain ⟨hX1,hX2⟩:=hX
 obtain ⟨u,⟨hu0,hu1⟩,hus⟩:=us_ex X hi9 lo9 hX1 hh hl
 have hlp1:-10000≤p * 108853 / 32768:=by omega
 have hlp2:p * 108853 / 32768≤10000:=by omega
 obtain ⟨lp,hlp⟩:∃ lp,lp=p * 108853 / 32768:=⟨_,rfl⟩
 have hlp3:-400≤lp:=by omega
 have hlp4:lp≤100:=by omega
 obtain ⟨e0,he0⟩:∃ e0,e0=min (1074:Int) (53 - (bl:Int) - lp):=⟨_,rfl⟩
 have he1:e0=53 - (bl:Int) - lp:=by omega
 have he2:-600≤e0:=by omega
 have he3:e0≤600:=by omega
 have he4:min (1074:Int) (53 - (bl:Int) - lp)=e0:=he0.symm
 clear he0
 have He1:=Lib.hid he1;clear he1
 have Hbl:=Lib.hid hbl;clear hbl
 have Hlp:=Lib.hid hlp;clear hlp
 have hx8:(64:Int) - (bl:Int)=((64 - bl:Nat):Int):=by omega
 obtain ⟨sh,hsh⟩:∃ sh,sh=64 - bl:=⟨_,rfl⟩
 rw [←hsh] at hX2 hx8
 have hsh64:sh≤64:=by omega
 have Hsh:=Lib.hid hsh;clear hsh
 have h21:21 < W0.heap.size:=World.block_lt_of_cell? _ _ t0
 have H21:=Lib.hid h21;clear h21
 have HF:=Lib.hid hF;clear hF
 have HT0:=Lib.hid t0;clear t0
 have HT1:=Lib.hid t1;clear t1
 have Hus:=Lib.hid hus;clear hus
 rcases Bool.eq_false_or_eq_true (decide (36028797018963966≤u)) with hge | hge
 ·have hu9:=u64_and_le u 1 (by decide)
  have hor:0≤bits BinOp.or IntKind.u64 (u / 2) (bits BinOp.and IntKind.u64 u 1)∧bits BinOp.or IntKind.u64 (u / 2) (bits BinOp.and IntKind.u64 u 1)≤36028797018963967:=or_lt55 (by omega) (by simp only [decide_eq_true_eq,decide_eq_false_iff_not] at hge;omega) hu9.1 (Int.lt_of_le_of_lt hu9.2 (by decide))
  obtain ⟨v,⟨hv0,hv1⟩,Hrn⟩:=rnd_ex (bits BinOp.or IntKind.u64 (u / 2) (bits BinOp.and IntKind.u64 u 1)) hor.1 hor.2
  have hsn:=or_sign Hs.out hv0 hv1
  obtain ⟨x,Hnn,Hpk⟩:=pack_ex (bits BinOp.or IntKind.u64 sg v) (-(e0 - 1)) hsn.1 hsn.2.1 hsn.2.2 (by omega) (by have:=He1.out;omega)
  clear hu9 hor hsn
  have HRN:=Lib.hid Hrn
  have HPK:=Lib.hid Hpk
  clear Hrn Hpk
  replace hv1:v≤18446744073709551615:=by omega
  refine ⟨x,Hnn,fun w hE=>?_⟩
  clear Hnn
  have hwz:=hE.1
  go_enter Tryz.func154,Tryz.ntmps154
  go_wp2_with fail
  refine (Tryz.bits_Len64 d _ (by omega) (by omega)).mono ?_
  rintro e w1 ⟨rfl,hw⟩
  subst w1
  rw [Int.toNat_natCast,←Hbl.out]
  go_wp2_with fail
  refine (l2p_any _ p (by omega) (by omega)).mono ?_
  rintro e w1 ⟨rfl,hw⟩
  subst w1
  rw [←Hlp.out]
  go_wp2_with fail
  have hnew:=heap_alloc_new w (.cells #[.int .u64 0,.int .u64 0,.int .i64 0] 240 (0,0))
  refine (pre_any _ w.heap.size _ p lp i hi9 lo9 240 _ _ _ hi (by omega) (by have:=H21.out;omega) (by rw [World.cell?_alloc_past _ _ _ (by have:=H21.out;simp;omega)];exact hE.cell HT0.out) (by rw [World.cell?_alloc_past _ _ _ (by have:=H21.out;simp;omega)];exact hE.cell HT1.out) (by exact hnew) (by omega) (by omega) (by omega) (by omega)).mono ?_
  rintro e w1 ⟨rfl,hb1,hg1⟩
  rw [show -(e0 - (sh:Int) + lp + 3)=8 by have:=He1.out;have:=Hsh.out;omega] at hb1
  have d0:w1.cell? ⟨w.heap.size,0,none⟩=some (.int .u64 hi9):=by simp [World.cell?,hb1]
  have d1:w1.cell? ⟨w.heap.size,1,none⟩=some (.int .u64 lo9):=by simp [World.cell?,hb1]
  have d2:w1.cell? ⟨w.heap.size,2,none⟩=some (.int .i64 8):=by simp [World.cell?,hb1]
  have HG1:=Lib.hid (show w.grownBy w1 none from gr_noneThen (gr_alloc (World.grownBy.refl w none) _) hg1 (fun j hj=>by injection hj with hj;omega))
  clear hg1 hb1 hnew
  go_wp2_with fail
  refine (Hus.out w1 w.heap.size d0 d1 d2).mono ?_
  rintro e w2 ⟨rfl,nn,rfl⟩
  go_wp2_with fail
  refine (umn_any _).mono ?_
  rintro e w2 ⟨rfl,hw⟩
  subst w2
  go_wp2_with fail
  first
   | refine (b2i_t _).mono ?_
   | refine (b2i_f _).mono ?_
  rintro e w2 ⟨rfl,hw⟩
  subst w2
  go_wp2_with fail
  refine (HRN.out _).mono ?_
  rintro e w2 ⟨rfl,hw⟩
  subst w2
  go_wp2_with fail
  refine (HPK.out _).mono ?_
  rintro e w2 ⟨rfl,hw⟩
  subst w2
  go_wp2_with fail
  go_ret2
  exact ⟨rfl,gr_drewN HG1.out _⟩
 ·have hu9:=u64_and_le u 1 (by decide)
  have hor:0≤bits BinOp.or IntKind.u64 (u) (bits BinOp.and IntKind.u64 u 1)∧bits BinOp.or IntKind.u64 (u) (bits BinOp.and IntKind.u64 u 1)≤36028797018963967:=or_lt55 (by omega) (by simp only [decide_eq_true_eq,decide_eq_false_iff_not] at hge;omega) hu9.1 (Int.lt_of_le_of_lt hu9.2 (by decide))
  obtain ⟨v,⟨hv0,hv1⟩,Hrn⟩:=rnd_ex (bits BinOp.or IntKind.u64 (u) (bits BinOp.and IntKind.u64 u 1)) hor.1 hor.2
  have hsn:=or_sign Hs.out hv0 hv1
  obtain ⟨x,Hnn,Hpk⟩:=pack_ex (bits BinOp.or IntKind.u64 sg v) (-e0) hsn.1 hsn.2.1 hsn.2.2 (by omega) (by have:=He1.out;omega)
  clear hu9 hor hsn
  have HRN:=Lib.hid Hrn
  have HPK:=Lib.hid Hpk
  clear Hrn Hpk
  replace hv1:v≤18446744073709551615:=by omega
  refine ⟨x,Hnn,fun w hE=>?_⟩
  clear Hnn
  have hwz:=hE.1
  go_enter Tryz.func154,Tryz.ntmps154
  go_wp2_with fail
  refine (Tryz.bits_Len64 d _ (by omega) (by omega)).mono ?_
  rintro e w1 ⟨rfl,hw⟩
  subst w1
  rw [Int.toNat_natCast,←Hbl.out]
  go_wp2_with fail
  refine (l2p_any _ p (by omega) (by omega)).mono ?_
  rintro e w1 ⟨rfl,hw⟩
  subst w1
  rw [←Hlp.out]
  go_wp2_with fail
  have hnew:=heap_alloc_new w (.cells #[.int .u64 0,.int .u64 0,.int .i64 0] 240 (0,0))
  refine (pre_any _ w.heap.size _ p lp i hi9 lo9 240 _ _ _ hi (by omega) (by have:=H21.out;omega) (by rw [World.cell?_alloc_past _ _ _ (by have:=H21.out;simp;omega)];exact hE.cell HT0.out) (by rw [World.cell?_alloc_past _ _ _ (by have:=H21.out;simp;omega)];exact hE.cell HT1.out) (by exact hnew) (by omega) (by omega) (by omega) (by omega)).mono ?_
  rintro e w1 ⟨rfl,hb1,hg1⟩
  rw [show -(e0 - (sh:Int) + lp + 3)=8 by have:=He1.out;have:=Hsh.out;omega] at hb1
  have d0:w1.cell? ⟨w.heap.size,0,none⟩=some (.int .u64 hi9):=by simp [World.cell?,hb1]
  have d1:w1.cell? ⟨w.heap.size,1,none⟩=some (.int .u64 lo9):=by simp [World.cell?,hb1]
  have d2:w1.cell? ⟨w.heap.size,2,none⟩=some (.int .i64 8):=by simp [World.cell?,hb1]
  have HG1:=Lib.hid (show w.grownBy w1 none from gr_noneThen (gr_alloc (World.grownBy.refl w none) _) hg1 (fun j hj=>by injection hj with hj;omega))
  clear hg1 hb1 hnew
  go_wp2_with fail
  refine (Hus.out w1 w.heap.size d0 d1 d2).mono ?_
  rintro e w2 ⟨rfl,nn,rfl⟩
  go_wp2_with fail
  refine (umn_any _).mono ?_
  rintro e w2 ⟨rfl,hw⟩
  subst w2
  go_wp2_with fail
  first
   | refine (b2i_t _).mono ?_
   | refine (b2i_f _).mono ?_
  rintro e w2 ⟨rfl,hw⟩
  subst w2
  go_wp2_with fail
  refine (HRN.out _).mono ?_
  rintro e w2 ⟨rfl,hw⟩
  subst w2
  go_wp2_with fail
  refine (HPK.out _).mono ?_
  rintro e w2 ⟨rfl,hw⟩
  subst w2
  go_wp2_with fail
  go_ret2
  exact ⟨rfl,gr_drewN HG1.out _⟩
end Go.Proofs.YtfkecmlmnhbmoaaGreatDoor
namespace Go.Proofs.YtfkecmlmnhbmoaaGreatDoor
theorem bs_get (l:By) (i:Nat) (h:i < (bs l).size):(bs l)[i]'h=l[i]'(by rwa [bs_size] at h):=by
 simp [bs,ByteArray.getElem_eq_getElem_data]
theorem bs_at {l pre post:By} {c:UInt8} (h:l=pre ++ c::post):∃ hk:pre.length < (bs l).size,(bs l)[pre.length]'hk=c:=by
 subst h
 refine ⟨by rw [bs_size];simp,?_⟩
 rw [bs_get];simp
end Go.Proofs.YtfkecmlmnhbmoaaGreatDoor
namespace Go.Proofs.YtfkecmlmnhbmoaaGreatDoor
open Go Go.RowKit
end Go.Proofs.YtfkecmlmnhbmoaaGreatDoor
namespace Go.Proofs.YtfkecmlmnhbmoaaGreatDoor
open Go Go.RowKit
set_option maxRecDepth 100000 in
set_option maxHeartbeats 40000000 in
theorem rup_any (w:World) (b N:Nat) (dp:Int) (neg:Bool) (r:Nat) (hN:N≠0) (hr1:1≤r) (hlt:r < numD N) (h60:numD N≤100) (hru:ruB N r false=true) (hd1:-1000≤dp) (hd2:dp≤1000) (hD:DecN w b N dp neg false) :
  Calls Tryz.prog 175 #[.pointer (some ⟨b,0,none⟩),.int .i64 (r:Nat)] w fun e w'=>e=.returned (.tuple #[])∧DecN w' b (rdN N r) (rdP N r dp) neg false∧w.grownBy w' (some b):=by
 obtain ⟨h800,A,hA,hds,hdv⟩:=hD
 have hAl:=hA.1
 have HF:=Lib.hid (And.intro hds (And.intro hdv (And.intro hru hAl)))
 have HN:=Lib.hid hN
 obtain ⟨c0,c1,c2,c3,cf⟩:=hA.cells
 have HA:=Lib.hid hA
 obtain ⟨nd,hnd⟩:∃ nd,nd=numD N:=⟨_,rfl⟩
 rw [←hnd] at c0 hlt h60 h800
 have Hnd:=Lib.hid hnd
 clear hA hds hdv hru hN hnd hAl
 have hn0:¬((r:Int) < 0):=by omega
 have hn1:¬((nd:Int)≤(r:Int)):=by omega
 go_enter Tryz.func175,Tryz.ntmps175
 go_wp2_with fail
 go_loopg [4] r (fun g t4 wr=>∃ (i:Nat) (z:Int),t4=.int .i64 z∧z=(i:Int) - 1∧g=i∧Nines N r i∧i≤r∧wr=w)
 case atStart=>exact ⟨r,_,rfl,rfl,rfl,Nines.start N r,Nat.le_refl _,rfl⟩
 case round =>
  obtain ⟨i,z,rfl,hz,hg,hni,hir,rfl⟩:=hrel
  have Hg:=Lib.hid hg
  have Hni:=Lib.hid hni
  clear hg hni
  cases i with
  | zero =>
   have hz0:¬(0≤z):=by omega
   clear hz
   obtain ⟨c,hc,cd⟩:=HA.out.digE (i:=0) (by omega)
   clear hc
   go_wp2_with fail
   go_end0
   refine ⟨rfl,Nines.all Hni.out HN.out hr1 HF.out.2.2.2 ?_ (by rw [←Hnd.out];exact hlt) HF.out.2.2.1,by repeat (first | exact World.grownBy.refl _ _ | apply gr_set)⟩
   have:=((HA.out.setDig (i:=0) (by omega) 49).setNd 1).setDp (dp + 1)
   exact this
  | succ n =>
   have hz0:0≤z:=by omega
   have hz1:z < 800:=by omega
   have hzt:z.toNat=n:=by omega
   have Hz:=Lib.hid (show z=(n:Int) by omega)
   clear hz
   obtain ⟨c,hc,cd⟩:=HA.out.digE (i:=n) (by omega)
   by_cases h9:c.toNat < 57
   ·obtain ⟨c',hc'⟩:∃ c':UInt8,c'.toNat=c.toNat + 1:=⟨UInt8.ofNat (c.toNat + 1),by rw [UInt8.toNat_ofNat'];omega⟩
    have hw1:IntKind.u8.wrap ((c.toNat:Int) + 1)=(c'.toNat:Int):=by rw [IntKind.wrap_u8];omega
    have hw2:(c.toNat:Int) + 1=(c'.toNat:Int):=by omega
    have Hc:=Lib.hid (And.intro hc hc')
    clear hc hc'
    go_wp2_with fail
    go_region
    go_wp2_with fail
    refine bodyPost_ret (v:=.tuple #[]) (by simp [results,Tryz.results175]) rfl ?_
    have hc:=Hc.out
    refine ⟨rfl,Nines.up Hni.out HN.out (by rw [←Hnd.out];exact h800) HF.out.2.2.2 HF.out.1 HF.out.2.1 (by rw [←Hnd.out];omega) (by rw [hc.1];exact h9) (by rw [hc.1];exact hc.2) ?_ (by rw [←Hnd.out];exact hlt) HF.out.2.2.1,by repeat (first | exact World.grownBy.refl _ _ | apply gr_set | apply gr_drewN | apply gr_drew)⟩
    rw [show z + 1=((n + 1:Nat):Int) by have:=Hz.out;omega]
    exact (HA.out.setDig (i:=n) (by omega) c').setNd (n + 1)
   ·have Hc:=Lib.hid hc
    clear hc
    go_wp2_with fail
    go_roundg n
    case measure=>rw [Hg.out];omega
    case rel=>exact ⟨n,_,rfl,by have:=Hz.out;omega,rfl,Nines.step Hni.out (by have:=HF.out.2.2.2;rw [←Hnd.out];omega) HF.out.1 HF.out.2.1 (by rw [←Hnd.out];omega) (by rw [Hc.out];exact h9),by omega,rfl⟩
theorem cut_pos {A:By} {N r:Nat} (hN:N≠0) (hr1:1≤r) (hA:A.length=800) (hl:numD N≤800) (hd:isDs (A.take (numD N))) (hv:dv (A.take (numD N))=N) (hlt:r < numD N):trimN A r≠0:=by
 obtain ⟨hle,hpr⟩:=pdN_lead hN (r:=r) hr1 (by omega)
 have hpi:=pd_eq (A:=A) (N:=N) (r:=r) (by omega) hd hv
 unfold pd at hpi
 rw [if_pos (by omega)] at hpi
 have hp0:pdN N r≠0:=by have:=Nat.pow_pos (n:=r - 1) (show 0 < 10 by decide);omega
 have hds:isDs (A.take r):=by
  intro x hx
  refine hd x ?_
  have:A.take r=(A.take (numD N)).take r:=by rw [List.take_take,Nat.min_eq_left (by omega)]
  rw [this] at hx
  exact List.mem_of_mem_take hx
 obtain ⟨t1,t2⟩:=trimN_dv r A (by omega) hds (by rw [hpi];exact hp0) (by rw [hpi];exact hpr)
 rw [t1,hpi]
 have:=numD_pos1 (strip_pos hp0)
 omega
set_option maxRecDepth 100000 in
set_option maxHeartbeats 40000000 in
theorem rdown_any (w:World) (b N:Nat) (dp:Int) (neg:Bool) (r:Nat) (hN:N≠0) (hr1:1≤r) (hlt:r < numD N) (h60:numD N≤100) (hru:ruB N r false=false) (hD:DecN w b N dp neg false) :
  Calls Tryz.prog 176 #[.pointer (some ⟨b,0,none⟩),.int .i64 (r:Nat)] w fun e w'=>e=.returned (.tuple #[])∧DecN w' b (rdN N r) (rdP N r dp) neg false∧w.grownBy w' (some b):=by
 obtain ⟨h800,A,hA,hds,hdv⟩:=hD
 have hp0:=cut_pos hN hr1 hA.1 h800 hds hdv hlt
 have hfin:=fun (w':World) (hD':DecAt w' b A (trimN A r) dp neg false)=>cut_dec hN hr1 hA.1 h800 hds hdv hlt hru hD'
 have htr:=trim_any (w.setCell ⟨b,800,none⟩ (.int .i64 r)) b A r dp neg false (hA.setNd r) (by omega)
 have hdp:dpN (trimN A r) dp=dp:=by unfold dpN;rw [if_neg hp0]
 rw [hdp] at htr
 have Hfin:=Lib.hid hfin
 have Htr:=Lib.hid htr
 obtain ⟨c0,c1,c2,c3,cf⟩:=hA.cells
 obtain ⟨nd,hnd⟩:∃ nd,nd=numD N:=⟨_,rfl⟩
 rw [←hnd] at c0 hlt
 have hn0:¬((r:Int) < 0):=by omega
 have hn1:¬((nd:Int)≤(r:Int)):=by omega
 clear hA hds hdv hru hN hnd hfin htr hp0 hdp h800 h60
 go_enter Tryz.func176,Tryz.ntmps176
 go_wp2_with fail
 refine Htr.out.mono ?_
 rintro e w1 ⟨rfl,hD1,hg1⟩
 have HD1:=Lib.hid hD1
 have Hg1:=Lib.hid hg1
 clear hD1 hg1
 go_wp2_with fail
 go_end0
 exact ⟨rfl,Hfin.out _ HD1.out,(gr_set (World.grownBy.refl _ _) _ _).trans Hg1.out⟩
set_option maxRecDepth 100000 in
set_option maxHeartbeats 40000000 in
theorem round_any (w:World) (b N:Nat) (dp:Int) (neg:Bool) (r:Nat) (hN:N≠0) (hr1:1≤r) (hr2:r≤1000) (h60:numD N≤100) (hd1:-1000≤dp) (hd2:dp≤1000) (hD:DecN w b N dp neg false) :
  Calls Tryz.prog 124 #[.pointer (some ⟨b,0,none⟩),.int .i64 (r:Nat)] w fun e w'=>e=.returned (.tuple #[])∧DecN w' b (rdN N r) (rdP N r dp) neg false∧w.grownBy w' (some b):=by
 obtain ⟨c0,c1,c2,c3,cf⟩:=hD.cells
 obtain ⟨nd,hnd⟩:∃ nd,nd=numD N:=⟨_,rfl⟩
 rw [←hnd] at c0
 have Hnd:=Lib.hid hnd
 have HD:=Lib.hid hD
 have HN:=Lib.hid hN
 have h6:=h60
 rw [←hnd] at h6
 have H60:=Lib.hid h60
 clear hD hnd hN h60
 have hn0:¬((r:Int) < 0):=by omega
 by_cases hlt:r < nd
 ·have hn1:¬((nd:Int)≤(r:Int)):=by omega
  have hlt2:=hlt
  rw [Hnd.out] at hlt2
  have Hlt:=Lib.hid hlt2
  clear hlt2
  cases hru:ruB N r false
  ·have Hru:=Lib.hid hru
   clear hru
   go_enter Tryz.func124,Tryz.ntmps124
   go_wp2_with fail
   refine (sru_any _ b N dp neg false HD.out r (by omega)).mono ?_
   rintro e w1 ⟨rfl,m,rfl⟩
   rw [Hru.out]
   go_wp2_with fail
   refine (rdown_any _ b N dp neg r HN.out hr1 Hlt.out H60.out Hru.out (by exact HD.out.drewN m)).mono ?_
   rintro e w1 ⟨rfl,hD1,hg1⟩
   have HD1:=Lib.hid hD1
   have Hg1:=Lib.hid hg1
   clear hD1 hg1
   go_wp2_with fail
   go_end0
   exact ⟨rfl,HD1.out,(gr_drewN (World.grownBy.refl _ _) m).trans Hg1.out⟩
  ·have Hru:=Lib.hid hru
   clear hru
   go_enter Tryz.func124,Tryz.ntmps124
   go_wp2_with fail
   refine (sru_any _ b N dp neg false HD.out r (by omega)).mono ?_
   rintro e w1 ⟨rfl,m,rfl⟩
   rw [Hru.out]
   go_wp2_with fail
   refine (rup_any _ b N dp neg r HN.out hr1 Hlt.out H60.out Hru.out hd1 hd2 (by exact HD.out.drewN m)).mono ?_
   rintro e w1 ⟨rfl,hD1,hg1⟩
   have HD1:=Lib.hid hD1
   have Hg1:=Lib.hid hg1
   clear hD1 hg1
   go_wp2_with fail
   go_end0
   exact ⟨rfl,HD1.out,(gr_drewN (World.grownBy.refl _ _) m).trans Hg1.out⟩
 ·have hn1:(nd:Int)≤(r:Int):=by omega
  have hlt2:=hlt
  rw [Hnd.out] at hlt2
  have e1:rdN N r=N:=by unfold rdN;rw [if_neg hlt2]
  have e2:rdP N r dp=dp:=by unfold rdP;rw [if_neg hlt2]
  rw [e1,e2]
  clear e1 e2 hlt2 hlt
  go_enter Tryz.func124,Tryz.ntmps124
  go_wp2_with fail
  exact bodyPost_ret (v:=.tuple #[]) (by simp [results,Tryz.results124]) rfl ⟨rfl,HD.out,World.grownBy.refl _ _⟩
def LowAt (w:World) (g M n:Nat):Prop:=∃ cs:Array Value,w.heap[g]?=some (.cells cs 185 (0,0))∧cs.size=24∧∀ j,j < n→cs[j]?=some (.int .u8 (((48 + M / 10 ^ j % 10:Nat)):Int))
theorem LowAt.keep {w w':World} {g M n:Nat} (h:LowAt w g M n) (e:w'.heap[g]?=w.heap[g]?):LowAt w' g M n:=by
 obtain ⟨cs,h1,h2,h3⟩:=h
 exact ⟨cs,e.trans h1,h2,h3⟩
theorem LowAt.push {w:World} {g M n:Nat} (h:LowAt w g M n) (hn:n < 24) {v:Value} (hv:v=.int .u8 (((48 + M / 10 ^ n % 10:Nat)):Int)):LowAt (w.setCell ⟨g,n,none⟩ v) g M (n + 1):=by
 obtain ⟨cs,h1,h2,h3⟩:=h
 refine ⟨cs.setIfInBounds n v,decSet _ _ _ _ _ _ _ h1,by simpa using h2,fun j hj=>?_⟩
 rw [Array.getElem?_setIfInBounds]
 by_cases e:n=j
 ·subst e;rw [if_pos rfl,if_pos (by omega),hv]
 ·rw [if_neg e];exact h3 j (by omega)
theorem LowAt.cell {w:World} {g M n:Nat} (h:LowAt w g M n) {j:Nat} (hj:j < n):w.cell? ⟨g,j,none⟩=some (.int .u8 (((48 + M / 10 ^ j % 10:Nat)):Int)):=by
 obtain ⟨cs,h1,h2,h3⟩:=h
 simp [World.cell?,h1,h3 j hj]
theorem LowAt.cellAny {w:World} {g M n:Nat} (h:LowAt w g M n) {j:Nat} (hj:j < 24):(∃ v,w.cell? ⟨g,j,none⟩=some v)∧w.frozen? ⟨g,j,none⟩=false:=by
 obtain ⟨cs,h1,h2,h3⟩:=h
 refine ⟨⟨cs[j],?_⟩,?_⟩
 ·simp [World.cell?,h1,Array.getElem?_eq_getElem (show j < cs.size by omega)]
 ·simp [World.frozen?,h1]
end Go.Proofs.YtfkecmlmnhbmoaaGreatDoor
namespace Go.Proofs.YtfkecmlmnhbmoaaGreatDoor
open Go Go.RowKit
theorem gr_setZ {w wr:World} {b:Nat} (h:w.grownBy wr none) (hb:w.heap.size≤b) (i:Nat) (v:Value):w.grownBy (wr.setCell ⟨b,i,none⟩ v) none :=
 ⟨h.os,h.tape,h.output,by simpa using h.size,fun k hk hkb=>(Below.heap_setCell _ _ _ _ (by simp;omega)).trans (h.block k hk hkb)⟩
theorem gr_weak {w wr:World} (h:w.grownBy wr none) (r:Option Nat):w.grownBy wr r:=⟨h.os,h.tape,h.output,h.size,fun k hk _=>h.block k hk (by simp)⟩
set_option maxRecDepth 100000 in
set_option maxHeartbeats 40000000 in
theorem asg_any (w:World) (b:Nat) (A:By) (nd0:Nat) (dp0:Int) (neg tr:Bool) (M:Nat) (hM:M≠0) (hM64:M < 18446744073709551616) (hD:DecAt w b A nd0 dp0 neg tr) :
  Calls Tryz.prog 122 #[.pointer (some ⟨b,0,none⟩),.int .u64 (M:Nat)] w fun e w'=>e=.returned (.tuple #[])∧DecN w' b (strip M) (numD M) neg tr∧w.grownBy w' (some b):=by
 have hn24:numD M≤20:=numD_le_of (by omega)
 have hM1:1≤numD M:=numD_pos1 hM
 obtain ⟨n,hn⟩:∃ n,n=numD M:=⟨_,rfl⟩
 rw [←hn] at hn24 hM1 ⊢
 have HM:=Lib.hid (And.intro hM hn)
 have hlt:=hD.lt
 have hnew:∀ cs,(w.alloc (.cells cs 185)).heap[w.heap.size]?=some (.cells cs 185 (0,0)):=fun cs=>heap_alloc_new w _
 have HD:=Lib.hid hD
 have hbw:¬b=w.heap.size:=by omega
 clear hM hn hD
 go_enter Tryz.func122,Tryz.ntmps122
 go_wp2_with fail
 go_loopg [1,5] n (fun g t1 t5 wr=>∃ (i:Nat) (V:Nat),t1=.int .u64 (V:Nat)∧t5=.int .i64 (i:Nat)∧V=M / 10 ^ i∧i≤n∧g=n - i∧LowAt wr w.heap.size M i∧w.grownBy wr none∧V < 18446744073709551616)
 case atStart=>exact ⟨0,M,rfl,rfl,by simp,Nat.zero_le _,rfl,⟨_,hnew _,rfl,fun j hj=>absurd hj (Nat.not_lt_zero _)⟩,gr_alloc (World.grownBy.refl _ _) _,hM64⟩
 case round =>
  obtain ⟨i,V,rfl,rfl,hV,hi,hg,hL,hG,hV64⟩:=hrel
  have HV:=Lib.hid hV
  have Hg:=Lib.hid hg
  have HG:=Lib.hid hG
  have HL:=Lib.hid hL
  by_cases hin:i < n
  ·have hVne:V≠0:=by
    rw [hV]
    have h1:=numD_le M HM.out.1
    have h2:10 ^ i≤M:=Nat.le_trans (Nat.pow_le_pow_right (by decide) (by have:=HM.out.2;omega)) h1
    exact Nat.ne_of_gt (Nat.div_pos h2 (Nat.pow_pos (by decide)))
   obtain ⟨⟨u,hu⟩,hf⟩:=hL.cellAny (j:=i) (by omega)
   obtain ⟨q,hq⟩:∃ q,q=V / 10:=⟨_,rfl⟩
   obtain ⟨d,hd⟩:∃ d,d=V % 10:=⟨_,rfl⟩
   have hq1:(V:Int) / 10=(q:Int):=by omega
   have hq2:(V:Int).tdiv 10=(q:Int):=by rw [Int.tdiv_eq_ediv_of_nonneg (by omega)];exact hq1
   have hq3:(V:Int) - 10 * (q:Int)=(d:Int):=by omega
   have hq5:10 * (q:Int)≤V:=by omega
   have hd9:d≤9:=by omega
   have hvp:0 < (V:Int):=by omega
   have hV10:=hV
   have Hq:=Lib.hid (show q=M / 10 ^ (i + 1) by rw [hq,hV,Nat.div_div_eq_div_mul,Nat.pow_succ])
   have Hd:=Lib.hid (show d=M / 10 ^ i % 10 by rw [hd,hV])
   have Hq64:=Lib.hid (show q < 18446744073709551616 by omega)
   clear hV hV10 hg hG hL hVne hq hd
   go_wp2_with fail
   go_roundg (n - (i + 1))
   case measure=>rw [Hg.out];omega
   case rel =>
    refine ⟨i + 1,q,rfl,by simp,Hq.out,by omega,rfl,HL.out.push (by omega) ?_,gr_setZ HG.out (Nat.le_refl _) _ _,Hq64.out⟩
    rw [←Hd.out]
    congr 1
    first | omega | (rw [IntKind.wrap_u8];omega) | (simp;omega)
  ·obtain rfl:i=n:=by omega
   have hV0:V=0:=by
    rw [hV,HM.out.2]
    exact Nat.div_eq_of_lt (numD_lt M)
   subst hV0
   have hD:=HD.out.grown hG (by simp)
   obtain ⟨c0,c1,c2,c3,cf⟩:=hD.cells
   have hD0:=hD.setNd 0
   have HD0:=Lib.hid (DecN.zero hD0)
   clear hV HV hg hL hG hD hD0
   go_wp2_with fail
   go_loopg [5] i (fun g t5 wr=>∃ (k:Nat) (z:Int),t5=.int .i64 z∧z=(k:Int) - 1∧g=k∧k≤i∧DecN wr b (M / 10 ^ k) dp0 neg tr∧LowAt wr w.heap.size M i∧w.grownBy wr (some b))
   case atStart =>
    refine ⟨i,_,rfl,rfl,rfl,Nat.le_refl _,?_,HL.out.keep ?_,?_⟩
    ·rw [show M / 10 ^ i=0 by rw [HM.out.2];exact Nat.div_eq_of_lt (numD_lt M)];exact HD0.out
    ·exact Below.heap_setCell _ _ _ _ (by simpa using fun e=>hbw e.symm)
    ·exact gr_set (gr_weak HG.out _) _ _
   case round =>
    clear HD0 c0 c1 c2 c3 cf Hg HG HL
    obtain ⟨k,z,rfl,hz,hg,hk,hD2,hL2,hG2⟩:=hrel
    have Hg:=Lib.hid hg
    have HG:=Lib.hid hG2
    have HL:=Lib.hid hL2
    have HD2:=Lib.hid hD2
    cases k with
    | zero =>
     have hz0:¬(0≤z):=by omega
     rw [Nat.pow_zero,Nat.div_one] at hD2
     obtain ⟨h800,A',hA',hds',hdv'⟩:=hD2
     obtain ⟨c0,c1,c2,c3,cf⟩:=hA'.cells
     rw [←HM.out.2] at c0
     have htr:=trim_any (wr.setCell ⟨b,801,none⟩ (.int .i64 (i:Nat))) b A' (numD M) (i:Nat) neg tr (hA'.setDp _) h800
     obtain ⟨t1,t2⟩:=trimN_dv (numD M) A' (by have:=hA'.1;omega) hds' (by rw [hdv'];exact HM.out.1) (by rw [hdv'])
     rw [hdv'] at t1 t2
     have hpos:1≤numD (strip M):=numD_pos1 (strip_pos HM.out.1)
     have hdp:dpN (trimN A' (numD M)) (i:Nat)=(i:Nat):=by unfold dpN;rw [if_neg (by rw [t1];omega)]
     rw [hdp,t1] at htr
     have hfin:∀ w',DecAt w' b A' (numD (strip M)) (i:Nat) neg tr→DecN w' b (strip M) (i:Nat) neg tr:=fun w' h=>by
      have hle:=trimN_le A' (numD M)
      refine ⟨by rw [←t1];omega,A',h,?_,by rw [←t1];exact t2⟩
      rw [←t1]
      intro x hx
      refine hds' x ?_
      have e:A'.take (trimN A' (numD M))=(A'.take (numD M)).take (trimN A' (numD M)):=by rw [List.take_take,Nat.min_eq_left (by omega)]
      rw [e] at hx
      exact List.mem_of_mem_take hx
     have Htr:=Lib.hid htr
     have Hfin:=Lib.hid hfin
     clear hz hg hL2 hG2 HD2 hA' hds' hdv' htr t1 t2 hfin hpos hdp h800
     go_wp2_with fail
     refine Htr.out.mono ?_
     rintro e w1 ⟨rfl,hD1,hg1⟩
     have HD1:=Lib.hid hD1
     have Hg1:=Lib.hid hg1
     clear hD1 hg1
     go_wp2_with fail
     go_end0
     exact ⟨rfl,Hfin.out _ HD1.out,(gr_set HG.out _ _).trans Hg1.out⟩
    | succ j =>
     have hz0:0≤z:=by omega
     have hz1:z < 24:=by omega
     have hzt:z.toNat=j:=by omega
     have Hz:=Lib.hid (show z=(j:Int) by omega)
     obtain ⟨c,hc⟩:∃ c:UInt8,c.toNat=48 + M / 10 ^ j % 10:=⟨UInt8.ofNat (48 + M / 10 ^ j % 10),by rw [UInt8.toNat_ofNat'];omega⟩
     have hcl:=hL2.cell (j:=j) (by omega)
     rw [←hc] at hcl
     obtain ⟨nn,hnn⟩:∃ nn,nn=numD (M / 10 ^ (j + 1)):=⟨_,rfl⟩
     have hnn20:nn≤20:=by
      have:=numD_mono (Nat.div_le_self M (10 ^ (j + 1)))
      have:=HM.out.2
      omega
     have hdg:=HD2.out.digit (c:=c) (by omega) (by omega) (fun h=>by
      have h1:=numD_le M HM.out.1
      have h2:10 ^ j≤M:=Nat.le_trans (Nat.pow_le_pow_right (by decide) (by have:=HM.out.2;omega)) h1
      have h3:=Nat.div_pos h2 (Nat.pow_pos (show 0 < 10 by decide))
      have h4:M / 10 ^ j / 10=0:=by rw [Nat.div_div_eq_div_mul,←Nat.pow_succ];exact h.2
      omega) (by omega)
     rw [←hnn,show 10 * (M / 10 ^ (j + 1)) + (c.toNat - 48)=M / 10 ^ j by
      rw [hc,Nat.pow_succ,←Nat.div_div_eq_div_mul];omega] at hdg
     obtain ⟨h800,A',hA',hds',hdv'⟩:=hD2
     obtain ⟨c0,c1,c2,c3,cf⟩:=hA'.cells
     rw [←hnn] at c0
     obtain ⟨c9,hc9,cd9⟩:=hA'.digE (i:=nn) (by omega)
     have hne1:¬nn=800:=by omega
     have hne2:¬800=nn:=by omega
     have Hdg:=Lib.hid hdg
     clear hz hg hL2 hG2 HD2 hA' hds' hdv' hdg hnn hc hc9 h800
     go_wp2_with fail
     go_region
     go_wp2_with fail
     go_roundg j
     case measure=>rw [Hg.out];omega
     case rel =>
      refine ⟨j,_,rfl,by have:=Hz.out;omega,rfl,by omega,Hdg.out,HL.out.keep ?_,?_⟩
      ·refine (Below.heap_setCell _ _ _ _ (by simpa using fun e=>hbw e.symm)).trans ?_
       exact Below.heap_setCell _ _ _ _ (by simpa using fun e=>hbw e.symm)
      ·repeat (first | exact HG.out | apply gr_set | apply gr_drew)
end Go.Proofs.YtfkecmlmnhbmoaaGreatDoor
