/- The texts F18 F19 C2 G25 G26 J11 J12 J13 of the workbench, laid together. -/
import Derived.Test.YtfkecmlmnhbmoaaGreatDoorProg
import Derived.WalkKit
import Derived.WalkLawsBesides
import Derived.WalkSpells
import Derived.BigQuiet
import Derived.BigRegion
import Derived.Deep.QuietTactic
import Derived.Deep.RegionHeld3
import Derived.Deep.LoopGhost
import Derived.StillTailTactics
import Derived.Lib.Hide
import Derived.Laws.EntriesVeiled
import Derived.Defers
import Derived.Recover
import Derived.Deep.Cut
import Derived.Deep.CutRange
import Derived.IntWalk
import Derived.Laws.Externs
import Derived.Test.YtfkecmlmnhbmoaaGreatDoorY19
import Derived.Test.YtfkecmlmnhbmoaaGreatDoorY25
import Derived.Test.YtfkecmlmnhbmoaaGreatDoorY26
import Derived.Test.YtfkecmlmnhbmoaaGreatDoorY27
import Derived.Test.YtfkecmlmnhbmoaaGreatDoorY28
set_option linter.unusedVariables false
set_option linter.unusedSimpArgs false
namespace Go.Proofs.YtfkecmlmnhbmoaaGreatDoor
open Go Go.RowKit
structure FInit3 (W0:World):Prop extends FInit2 W0 where
 nz:∀ fb fo (i:Nat) x,(∃ fc,W0.cell? ⟨20,0,Option.none⟩=some (.slice (some ⟨fb,fo,Option.none⟩) 23 fc))→i < 23→W0.cell? ⟨fb,fo + i,Option.none⟩=some (.float .f64 x)→∃ s m j,FloatKind.f64.format.read x=.number s m j∧m≠0
theorem b2_tv {o:Int} (ho:o=1) (w:World):Calls Tryz.prog 151 #[.bool true] w fun e w'=>e=.returned (.int .u64 o)∧w'=w:=by subst ho;exact b2_t w
theorem rf_facts {l:By} (h:numOk l):∃ M nd dp tr,rfF (numStrip l) 0 0 0 false=(M,nd,dp,tr)∧M < 10000000000000000000∧-60≤dp∧dp≤14∧nd≤60∧(nd:Int) - dp≤60∧(M=0↔nd=0)∧(tr=true→20≤nd):=by
 obtain ⟨pre,c,l1,d,a,_,_,hst,hsc,h1,h2,h3⟩:=numOk_parts h
 have hI:=rf_end _ 0 0 0 false 0 0 0 d a hsc RfI.start
 rw [hst]
 generalize rfF (c::l1) 0 0 0 false=R at hI ⊢
 obtain ⟨M,nd,dp,tr⟩:=R
 simp only at hI
 have hm:=hI.m
 have hm2:10 ^ min nd 19≤10 ^ 19:=pow10_le (by omega)
 have hm3:(10:Nat) ^ 19=10000000000000000000:=by decide
 refine ⟨M,nd,dp,tr,rfl,by omega,?_,?_,?_,?_,hI.m0,hI.t⟩
 ·have h1:=hI.lo;have h2:=hI.nd_d;omega
 ·have:=hI.hi;omega
 ·have:=hI.nd_d;omega
 ·have:=hI.lo;omega
def A64 (W0:World) (l:By) (s:ByteArray) (x:Nat):Prop:=∀ w:World,Env W0 w→Calls Tryz.prog 107 #[.string s] w fun e w'=>e=.returned (.tuple #[.float .f64 x,.int .i64 s.size,.nilIface])∧w.grownBy w' none
set_option maxRecDepth 100000 in
set_option maxHeartbeats 40000000 in
theorem a64_zero (W0:World) (hF:FInit3 W0) (l:By) (hok:numOk l) (s:ByteArray) (hs:s.data.toList=l) (hs2:s.size≤1000) (hM:(rfF (numStrip l) 0 0 0 false).1=0):∃ x,nnF x∧A64 W0 l s x:=by
 have hopt:=hF.opt
 have hfb:=run_frombits
 obtain ⟨M,nd,dp,tr,hR,_⟩:=rf_facts hok
 rw [hR] at hM
 simp only at hM
 subst hM
 obtain ⟨ng,hng⟩:∃ ng,headIs l (· == 45)=ng:=⟨_,rfl⟩
 have hrf:=fun w=>rf_any w s l hs hok hs2
 have hsp:=fun w=>special_any w s l hs hok hs2
 unfold rfRet at hrf
 simp only [hR,hng,if_true] at hrf
 have Hrf:=Lib.hid hrf;clear hrf
 have Hsp:=Lib.hid hsp;clear hsp
 have Hng:=Lib.hid hng;clear hng
 have HR:=Lib.hid hR;clear hR
 have Hs:=Lib.hid hs;clear hs
 clear hok
 have y30:∀ (a b c:Value),([a,b,c]:List Value)[0]?=some a:=fun _ _ _=>rfl
 have y31:∀ (a b c:Value),([a,b,c]:List Value)[1]?=some b:=fun _ _ _=>rfl
 have y32:∀ (a b c:Value),([a,b,c]:List Value)[2]?=some c:=fun _ _ _=>rfl
 have y70:∀ (a b c d e f g:Value),([a,b,c,d,e,f,g]:List Value)[0]?=some a:=fun _ _ _ _ _ _ _=>rfl
 have y71:∀ (a b c d e f g:Value),([a,b,c,d,e,f,g]:List Value)[1]?=some b:=fun _ _ _ _ _ _ _=>rfl
 have y72:∀ (a b c d e f g:Value),([a,b,c,d,e,f,g]:List Value)[2]?=some c:=fun _ _ _ _ _ _ _=>rfl
 have y73:∀ (a b c d e f g:Value),([a,b,c,d,e,f,g]:List Value)[3]?=some d:=fun _ _ _ _ _ _ _=>rfl
 have y74:∀ (a b c d e f g:Value),([a,b,c,d,e,f,g]:List Value)[4]?=some e:=fun _ _ _ _ _ _ _=>rfl
 have y75:∀ (a b c d e f g:Value),([a,b,c,d,e,f,g]:List Value)[5]?=some f:=fun _ _ _ _ _ _ _=>rfl
 have y76:∀ (a b c d e f g:Value),([a,b,c,d,e,f,g]:List Value)[6]?=some g:=fun _ _ _ _ _ _ _=>rfl
 have sh0:∀ w:World,(Op.shift BinOp.shl IntKind.u64 0 IntKind.u64 63).run Tryz.prog w=.ok (.int .u64 0) w:=fun _=>by kernel_rfl
 obtain ⟨S63,hS63⟩:∃ S63:Int,S63=9223372036854775808:=⟨_,rfl⟩
 obtain ⟨o1,ho1⟩:∃ o1:Int,o1=1:=⟨_,rfl⟩
 have sh1:∀ w:World,(Op.shift BinOp.shl IntKind.u64 o1 IntKind.u64 63).run Tryz.prog w=.ok (.int .u64 S63) w:=fun _=>by rw [hS63,ho1];kernel_rfl
 have sh2:IntKind.u64.wrap (o1 * 9223372036854775808)=S63:=by rw [ho1,hS63];decide
 have Ho1:=Lib.hid ho1;clear ho1
 have hS0:0≤S63:=by omega
 have hS1:S63≤18446744073709551615:=by omega
 have HS63:=Lib.hid hS63;clear hS63
 obtain ⟨Z0,hZ0⟩:∃ Z0,bits BinOp.or IntKind.u64 0 0=Z0:=⟨_,rfl⟩
 obtain ⟨Z1,hZ1⟩:∃ Z1,bits BinOp.or IntKind.u64 S63 0=Z1:=⟨_,rfl⟩
 obtain ⟨x0,hx0⟩:∃ x:Nat,x=Z0.toNat:=⟨_,rfl⟩
 obtain ⟨x1,hx1⟩:∃ x:Nat,x=Z1.toNat:=⟨_,rfl⟩
 have hfb0:∀ w:World,(callFunc 152 #[.int .u64 Z0]).run Tryz.prog w=.ok (.value (.float .f64 x0)) w:=fun w=>by rw [hx0];exact hfb Z0 w
 have hfb1:∀ w:World,(callFunc 152 #[.int .u64 Z1]).run Tryz.prog w=.ok (.value (.float .f64 x1)) w:=fun w=>by rw [hx1];exact hfb Z1 w
 have n0:nnF x0:=by rw [hx0,←hZ0];exact nnF_of (by decide)
 have n1:nnF x1:=by rw [hx1,←hZ1,HS63.out];exact nnF_of (by decide)
 clear hx0 hx1 hfb
 cases ng
 ·refine ⟨x0,n0,fun w hE=>?_⟩
  have e0:=hE.cell hopt
  go_enter Tryz.func107,Tryz.ntmps107
  go_wp2_with fail
  refine (Hsp.out _).mono ?_
  rintro e w1 ⟨rfl,hw⟩
  subst w1
  go_wp2_with fail
  refine (Hrf.out _).mono ?_
  rintro e w1 ⟨rfl,hw⟩
  subst w1
  go_wp2_with fail
  refine (b2_f _).mono ?_
  rintro e w1 ⟨rfl,hw⟩
  subst w1
  go_wp2_with fail
  go_ret3
  exact ⟨rfl,World.grownBy.refl _ _⟩
 ·refine ⟨x1,n1,fun w hE=>?_⟩
  have e0:=hE.cell hopt
  go_enter Tryz.func107,Tryz.ntmps107
  go_wp2_with fail
  refine (Hsp.out _).mono ?_
  rintro e w1 ⟨rfl,hw⟩
  subst w1
  go_wp2_with fail
  refine (Hrf.out _).mono ?_
  rintro e w1 ⟨rfl,hw⟩
  subst w1
  go_wp2_with fail
  refine (b2_tv Ho1.out _).mono ?_
  rintro e w1 ⟨rfl,hw⟩
  subst w1
  go_wp2_with fail
  go_ret3
  exact ⟨rfl,World.grownBy.refl _ _⟩
end Go.Proofs.YtfkecmlmnhbmoaaGreatDoor
namespace Go.Proofs.YtfkecmlmnhbmoaaGreatDoor
open Go Go.RowKit
set_option maxRecDepth 100000 in
set_option maxHeartbeats 40000000 in
theorem a64_short (W0:World) (hF:FInit3 W0) (l:By) (hok:numOk l) (s:ByteArray) (hs:s.data.toList=l) (hs2:s.size≤1000) (hM:¬(rfF (numStrip l) 0 0 0 false).1=0) (htr:(rfF (numStrip l) 0 0 0 false).2.2.2=false):∃ x,nnF x∧A64 W0 l s x:=by
 have hopt:=hF.opt
 have hfb:=run_frombits
 obtain ⟨M,nd,dp,tr,hR,hM19,hdp1,hdp2,hnd60,hndp,hM0,htr20⟩:=rf_facts hok
 obtain ⟨ng,hng⟩:∃ ng,headIs l (· == 45)=ng:=⟨_,rfl⟩
 have hrf:=fun w=>rf_any w s l hs hok hs2
 have hsp:=fun w=>special_any w s l hs hok hs2
 unfold rfRet at hrf
 rw [hR] at hM
 simp only at hM
 simp only [hR,hng,if_neg hM] at hrf
 obtain ⟨p,hp⟩:∃ p,p=dp - (min nd 19:Nat):=⟨_,rfl⟩
 rw [←hp] at hrf
 have hp1:-100≤p:=by omega
 have hp2:p≤20:=by omega
 have hMb:((M:Int) == 0)=false:=by simp;omega
 have hM9:M < 18446744073709551616:=by omega
 have y30:∀ (a b c:Value),([a,b,c]:List Value)[0]?=some a:=fun _ _ _=>rfl
 have y31:∀ (a b c:Value),([a,b,c]:List Value)[1]?=some b:=fun _ _ _=>rfl
 have y32:∀ (a b c:Value),([a,b,c]:List Value)[2]?=some c:=fun _ _ _=>rfl
 have y70:∀ (a b c d e f g:Value),([a,b,c,d,e,f,g]:List Value)[0]?=some a:=fun _ _ _ _ _ _ _=>rfl
 have y71:∀ (a b c d e f g:Value),([a,b,c,d,e,f,g]:List Value)[1]?=some b:=fun _ _ _ _ _ _ _=>rfl
 have y72:∀ (a b c d e f g:Value),([a,b,c,d,e,f,g]:List Value)[2]?=some c:=fun _ _ _ _ _ _ _=>rfl
 have y73:∀ (a b c d e f g:Value),([a,b,c,d,e,f,g]:List Value)[3]?=some d:=fun _ _ _ _ _ _ _=>rfl
 have y74:∀ (a b c d e f g:Value),([a,b,c,d,e,f,g]:List Value)[4]?=some e:=fun _ _ _ _ _ _ _=>rfl
 have y75:∀ (a b c d e f g:Value),([a,b,c,d,e,f,g]:List Value)[5]?=some f:=fun _ _ _ _ _ _ _=>rfl
 have y76:∀ (a b c d e f g:Value),([a,b,c,d,e,f,g]:List Value)[6]?=some g:=fun _ _ _ _ _ _ _=>rfl
 have sh0:∀ w:World,(Op.shift BinOp.shl IntKind.u64 0 IntKind.u64 63).run Tryz.prog w=.ok (.int .u64 0) w:=fun _=>by kernel_rfl
 obtain ⟨S63,hS63⟩:∃ S63:Int,S63=9223372036854775808:=⟨_,rfl⟩
 obtain ⟨o1,ho1⟩:∃ o1:Int,o1=1:=⟨_,rfl⟩
 have sh1:∀ w:World,(Op.shift BinOp.shl IntKind.u64 o1 IntKind.u64 63).run Tryz.prog w=.ok (.int .u64 S63) w:=fun _=>by rw [hS63,ho1];kernel_rfl
 have sh2:IntKind.u64.wrap (o1 * 9223372036854775808)=S63:=by rw [ho1,hS63];decide
 have Ho1:=Lib.hid ho1;clear ho1
 have hS0:0≤S63:=by omega
 have hS1:S63≤18446744073709551615:=by omega
 have HS63:=Lib.hid hS63;clear hS63
 rw [hR] at htr
 simp only at htr
 subst htr
 have hex:=ex_any W0 hF.toFInit2 hF.nz M hM9 p hp1 hp2 ng
 obtain ⟨xe,ok,hxn,hex⟩:=hex
 have Hrf:=Lib.hid hrf;clear hrf
 have Hsp:=Lib.hid hsp;clear hsp
 have Hng:=Lib.hid hng;clear hng
 have HR:=Lib.hid hR;clear hR
 have Hs:=Lib.hid hs;clear hs
 have Hex:=Lib.hid hex;clear hex
 have Hp:=Lib.hid hp;clear hp
 have HM:=Lib.hid hM;clear hM
 clear hok hfb hM0 htr20 hM19 hndp
 cases ng
 ·obtain ⟨xp,hpn,hpf⟩:=pf64_ex W0 hF.toFInit2 M hM9 p hp1 hp2 0 (.inl rfl)
  have Hpf:=Lib.hid hpf;clear hpf
  cases ok
  ·refine ⟨xp,hpn,fun w hE=>?_⟩
   clear hpn hxn
   have e0:=hE.cell hopt
   go_enter Tryz.func107,Tryz.ntmps107
   go_wp2_with fail
   refine (Hsp.out _).mono ?_
   rintro e w1 ⟨rfl,hw⟩
   subst w1
   go_wp2_with fail
   refine (Hrf.out _).mono ?_
   rintro e w1 ⟨rfl,hw⟩
   subst w1
   go_wp2_with fail
   refine (b2_f _).mono ?_
   rintro e w1 ⟨rfl,hw⟩
   subst w1
   go_wp2_with fail
   refine (Hex.out _ hE).mono ?_
   rintro e w1 ⟨rfl,hw⟩
   subst w1
   go_wp2_with fail
   refine (Hpf.out _ hE).mono ?_
   rintro e w1 ⟨rfl,hg⟩
   have Hg:=Lib.hid hg;clear hg
   go_wp2_with fail
   go_ret3
   exact ⟨rfl,Hg.out⟩
  ·refine ⟨xe,hxn rfl,fun w hE=>?_⟩
   clear hpn hxn
   have e0:=hE.cell hopt
   go_enter Tryz.func107,Tryz.ntmps107
   go_wp2_with fail
   refine (Hsp.out _).mono ?_
   rintro e w1 ⟨rfl,hw⟩
   subst w1
   go_wp2_with fail
   refine (Hrf.out _).mono ?_
   rintro e w1 ⟨rfl,hw⟩
   subst w1
   go_wp2_with fail
   refine (b2_f _).mono ?_
   rintro e w1 ⟨rfl,hw⟩
   subst w1
   go_wp2_with fail
   refine (Hex.out _ hE).mono ?_
   rintro e w1 ⟨rfl,hw⟩
   subst w1
   go_wp2_with fail
   go_ret3
   exact ⟨rfl,World.grownBy.refl _ _⟩
 ·obtain ⟨xp,hpn,hpf⟩:=pf64_ex W0 hF.toFInit2 M hM9 p hp1 hp2 S63 (.inr HS63.out)
  have Hpf:=Lib.hid hpf;clear hpf
  cases ok
  ·refine ⟨xp,hpn,fun w hE=>?_⟩
   clear hpn hxn
   have e0:=hE.cell hopt
   go_enter Tryz.func107,Tryz.ntmps107
   go_wp2_with fail
   refine (Hsp.out _).mono ?_
   rintro e w1 ⟨rfl,hw⟩
   subst w1
   go_wp2_with fail
   refine (Hrf.out _).mono ?_
   rintro e w1 ⟨rfl,hw⟩
   subst w1
   go_wp2_with fail
   refine (b2_tv Ho1.out _).mono ?_
   rintro e w1 ⟨rfl,hw⟩
   subst w1
   go_wp2_with fail
   refine (Hex.out _ hE).mono ?_
   rintro e w1 ⟨rfl,hw⟩
   subst w1
   go_wp2_with fail
   refine (Hpf.out _ hE).mono ?_
   rintro e w1 ⟨rfl,hg⟩
   have Hg:=Lib.hid hg;clear hg
   go_wp2_with fail
   go_ret3
   exact ⟨rfl,Hg.out⟩
  ·refine ⟨xe,hxn rfl,fun w hE=>?_⟩
   clear hpn hxn
   have e0:=hE.cell hopt
   go_enter Tryz.func107,Tryz.ntmps107
   go_wp2_with fail
   refine (Hsp.out _).mono ?_
   rintro e w1 ⟨rfl,hw⟩
   subst w1
   go_wp2_with fail
   refine (Hrf.out _).mono ?_
   rintro e w1 ⟨rfl,hw⟩
   subst w1
   go_wp2_with fail
   refine (b2_tv Ho1.out _).mono ?_
   rintro e w1 ⟨rfl,hw⟩
   subst w1
   go_wp2_with fail
   refine (Hex.out _ hE).mono ?_
   rintro e w1 ⟨rfl,hw⟩
   subst w1
   go_wp2_with fail
   go_ret3
   exact ⟨rfl,World.grownBy.refl _ _⟩
end Go.Proofs.YtfkecmlmnhbmoaaGreatDoor
namespace Go.Proofs.YtfkecmlmnhbmoaaGreatDoor
open Go Go.RowKit
def set7 (w:World) (B:Nat) (v0 v1 v2 v3 v4 v5 v6:Value):World :=
 ((((((w.setCell ⟨B,0,none⟩ v0).setCell ⟨B,1,none⟩ v1).setCell ⟨B,2,none⟩ v2).setCell ⟨B,3,none⟩ v3).setCell ⟨B,4,none⟩ v4).setCell ⟨B,5,none⟩ v5).setCell ⟨B,6,none⟩ v6
theorem set7_other (w:World) (B k:Nat) (v0 v1 v2 v3 v4 v5 v6:Value) (h:k≠B):(set7 w B v0 v1 v2 v3 v4 v5 v6).heap[k]?=w.heap[k]?:=by
 unfold set7
 repeat rw [Below.heap_setCell _ _ _ _ (by simpa using h)]
theorem set7_at {w:World} {B:Nat} {a0 a1 a2 a3 a4 a5 a6:Value} {e:TypeId} (h:w.heap[B]?=some (.cells #[a0,a1,a2,a3,a4,a5,a6] e (0,0))) (v0 v1 v2 v3 v4 v5 v6:Value):(set7 w B v0 v1 v2 v3 v4 v5 v6).heap[B]?=some (.cells #[v0,v1,v2,v3,v4,v5,v6] e (0,0)):=by
 simp [set7,World.setCell,Array.getElem?_modify,h]
theorem set7_gr {w w3:World} {r:Option Nat} (h:w.grownBy w3 r) {B:Nat} (hB:w.heap.size≤B) (v0 v1 v2 v3 v4 v5 v6:Value):w.grownBy (set7 w3 B v0 v1 v2 v3 v4 v5 v6) r:=by
 unfold set7
 repeat' apply gr_setM
 all_goals first | exact h | exact hB
theorem set7_size (w:World) (B:Nat) (v0 v1 v2 v3 v4 v5 v6:Value):(set7 w B v0 v1 v2 v3 v4 v5 v6).heap.size=w.heap.size:=by simp [set7]
set_option maxRecDepth 100000 in
set_option maxHeartbeats 40000000 in
theorem val_door {w w3:World} {b:Nat} {s:ByteArray} {p3 l3:By} {bad deep:Int} {o en:Bool} {v0 v1 v2 v3 v4 v5 v6:Value} (hx:w3.heap[w.heap.size]?=some (.cells #[.pointer (some ⟨b,0,none⟩)] 55 (0,0))) (hz:w3.heap[w.heap.size + 1]?=some (.cells #[.int .i64 0,.int .i64 0,.int .i64 0,.float .f64 0,.string ⟨#[]⟩,.slice none 0 0,.slice none 0 0] 30 (0,0))) (hR:RdAt w3 b s p3 l3 bad (deep + 1) o en)
  (hg:w.grownBy w3 (some b)) (hbB:b < w.heap.size) (hd0:0≤deep) (hd1:deep≤50) {tmps:Array Value} (ht:tmps.getD 2 undef=.pointer (some ⟨w.heap.size + 1,0,none⟩)) {R:Ending→World→Prop}
  (hK:∀ w',RdAt w' b s p3 l3 bad deep o en→w.grownBy w' (some b)→(∀ k,k≠b→k≠w.heap.size + 1→w'.heap[k]?=w3.heap[k]?)→w'.heap.size=w3.heap.size→R (.returned (.agg #[v0,v1,v2,v3,v4,v5,v6])) w') :
  bodyPostD Tryz.prog Tryz.f28 R Exit.ret { tmps:=tmps,defers:=[{ target:=.fn (.func 44) #[.pointer (some ⟨w.heap.size,0,none⟩)],args:=#[] }] } (set7 w3 (w.heap.size + 1) v0 v1 v2 v3 v4 v5 v6):=by
 have hx4:(set7 w3 (w.heap.size + 1) v0 v1 v2 v3 v4 v5 v6).heap[w.heap.size]?=some (.cells #[.pointer (some ⟨b,0,none⟩)] 55 (0,0)):=(set7_other _ _ _ _ _ _ _ _ _ _ (by omega)).trans hx
 have hR4:RdAt (set7 w3 (w.heap.size + 1) v0 v1 v2 v3 v4 v5 v6) b s p3 l3 bad (deep + 1) o en:=hR.of_heap (set7_other _ _ _ _ _ _ _ _ _ _ (by omega))
 have hz4:=set7_at hz v0 v1 v2 v3 v4 v5 v6
 have hg4:=set7_gr hg (B:=w.heap.size + 1) (by omega) v0 v1 v2 v3 v4 v5 v6
 have hs4:=set7_size w3 (w.heap.size + 1) v0 v1 v2 v3 v4 v5 v6
 have ho4:∀ k,k≠w.heap.size + 1→(set7 w3 (w.heap.size + 1) v0 v1 v2 v3 v4 v5 v6).heap[k]?=w3.heap[k]?:=fun k hk=>set7_other _ _ _ _ _ _ _ _ _ _ hk
 generalize set7 w3 (w.heap.size + 1) v0 v1 v2 v3 v4 v5 v6=w4 at *
 refine leaves_cons (f:=44) (args:=#[.pointer (some ⟨w.heap.size,0,none⟩)]) (by simp) (by simp [go_sem]) ?_
 refine (val1_d w4 b w.heap.size (deep + 1) .returning (by simp [World.cell?,hx4]) hR4.cells.2.2.2.1 (hR4.cells.2.2.2.2.2.2 3) (by omega) (by omega)).mono ?_
 rintro e u' w'' ⟨rfl,rfl,rfl⟩
 have hR5:=hR4.set3 (deep + 1 - 1)
 rw [show deep + 1 - 1=deep by omega] at hR5 ⊢
 have hz5:(w4.setCell ⟨b,3,none⟩ (.int .i64 deep)).heap[w.heap.size + 1]?=some (.cells #[v0,v1,v2,v3,v4,v5,v6] 30 (0,0)):=(Below.heap_setCell _ _ _ _ (by simp;omega)).trans hz4
 have hg5:=gr_set hg4 3 (.int .i64 deep)
 have ho5:∀ k,k≠b→k≠w.heap.size + 1→(w4.setCell ⟨b,3,none⟩ (.int .i64 deep)).heap[k]?=w3.heap[k]?:=fun k h1 h2=>(Below.heap_setCell _ _ _ _ (by simpa using h1)).trans (ho4 k h2)
 have hs5:(w4.setCell ⟨b,3,none⟩ (.int .i64 deep)).heap.size=w3.heap.size:=by simpa using hs4
 generalize w4.setCell ⟨b,3,none⟩ (.int .i64 deep)=w5 at *
 obtain ⟨y0,y1,y2,y3,y4,y5,y6,yf⟩:=cells7 hz5
 refine Exists.intro (.agg #[v0,v1,v2,v3,v4,v5,v6]) ⟨by simp only [Array.getD_eq_getD_getElem?] at ht;simp [results,Tryz.results28,go_sem,ht,y0,y1,y2,y3,y4,y5,y6],?_⟩
 exact hK _ hR5 hg5 ho5 hs5
set_option maxRecDepth 100000 in
set_option maxHeartbeats 40000000 in
theorem val_lit (w:World) (b:Nat) (s:ByteArray) (p l:By) (deep:Int) (hd0:0≤deep) (hd1:deep≤49) (odd ends:Bool) (hR:RdAt w b s p l 0 deep odd ends) (hs:s.size≤1000000000)
  (c:UInt8) (la:By) (oa:Bool) (hP:passM false l odd=(c::la,oa)) (h40:((c.toNat:Int) == 40)=true) :
  Calls Tryz.prog 28 #[.pointer (some ⟨b,0,none⟩)] w fun e w'=>VPost w w' b s deep ends e ((litF (c::la) 0 []).map fun r=>(.str r.1,r.2,oa)):=by
 have hbB:=hR.lt
 have HR:=Lib.hid hR;clear hR
 have hal:=alloc2 w w.heap.size rfl (.cells #[.pointer (some ⟨b,0,none⟩)] 55 (0,0)) (.cells #[.int .i64 0,.int .i64 0,.int .i64 0,.float .f64 0,.string ⟨#[]⟩,.slice none 0 0,.slice none 0 0] 30 (0,0))
 have hmf:∀ (fn:Fn) (first cap:Array Value) (w:World),(Instr.makeFunc fn first cap).run Tryz.prog w=.ok (.func fn first cap) w:=fun _ _ _ _=>rfl
 go_enter_defers Tryz.func28,Tryz.ntmps28
 go_wp2_with fail
 refine (pass_any _ b s p l 0 deep odd ends (by exact (HR.out.alloc _).alloc _) (by omega)).mono ?_
 rintro e w1 ⟨rfl,⟨p1,hR1⟩,hg1⟩
 have hb1:=keep hg1 hal.1 (by simp;omega)
 have hb2:=keep hg1 hal.2 (by simp;omega)
 have hlt1:w.heap.size + 1 < w1.heap.size:=(Array.getElem?_eq_some_iff.1 hb2).1
 have HG1:=Lib.hid (gr_same (gr_alloc (gr_alloc (World.grownBy.refl w (some b)) _) _) hg1)
 have HB1:=Lib.hid hb1
 have HB2:=Lib.hid hb2
 have d0:w1.cell? ⟨w.heap.size,0,none⟩=some (.pointer (some ⟨b,0,none⟩)):=by simp [World.cell?,hb1]
 rw [hP] at hR1
 simp only at hR1
 obtain ⟨c0,c1,c2,c3,c4,c5,cf⟩:=hR1.cells
 have hsz1:=hR1.size
 have HR1:=Lib.hid hR1
 have hnb1:¬w.heap.size=b:=by omega
 have hnb2:¬w.heap.size + 1=b:=by omega
 have hp1:p1.length≤s.size:=by omega
 have Hsz1:=Lib.hid hsz1
 clear hg1 hal hb1 hb2 hR1 hsz1
 go_wp2_with fail
 have hlt:p1.length < s.size:=by have:=Hsz1.out;simp at this;omega
 obtain ⟨hk,hget⟩:=HR1.out.head
 have hle:¬s.size≤p1.length:=by omega
 have HR2:=Lib.hid (HR1.out.set3 (deep + 1))
 have HG2:=Lib.hid (gr_set HG1.out 3 (.int .i64 (deep + 1)))
 have hlt2:w.heap.size + 1 < (w1.setCell ⟨b,3,none⟩ (.int .i64 (deep + 1))).heap.size:=by simp;omega
 have HB3:=Lib.hid ((Below.heap_setCell w1 ⟨b,3,none⟩ (.int .i64 (deep + 1)) w.heap.size (by simp;omega)).trans HB1.out)
 have HB4:=Lib.hid ((Below.heap_setCell w1 ⟨b,3,none⟩ (.int .i64 (deep + 1)) (w.heap.size + 1) (by simp;omega)).trans HB2.out)
 obtain ⟨w2,hw2⟩:∃ w2,w2=w1.setCell ⟨b,3,none⟩ (.int .i64 (deep + 1)):=⟨_,rfl⟩
 rw [←hw2] at HR2 HG2 HB3 HB4 hlt2 ⊢
 clear hw2 HR1 HG1 HB1 HB2 c0 c1 c2 c3 c4 c5 cf d0 hlt1
 obtain ⟨c0,c1,c2,c3,c4,c5,cf⟩:=HR2.out.cells
 have d0:w2.cell? ⟨w.heap.size,0,none⟩=some (.pointer (some ⟨b,0,none⟩)):=by simp [World.cell?,HB3.out]
 go_quiet ((first|(go_at_call 42;with_reducible first|exact qaw _|exact qbw _)|(go_at_call 43;with_reducible first|exact qap _|exact qbp _)|(go_at_call 52;with_reducible first|exact qad _|exact qbd _)|(go_at_call 76;with_reducible first|exact qar _|exact qbr _)|(go_at_call 75;with_reducible first|exact qag _|exact qbg _)));go_wp2_with fail
 go_quiet ((first|(go_at_call 42;with_reducible first|exact qaw _|exact qbw _)|(go_at_call 43;with_reducible first|exact qap _|exact qbp _)|(go_at_call 52;with_reducible first|exact qad _|exact qbd _)|(go_at_call 76;with_reducible first|exact qar _|exact qbr _)|(go_at_call 75;with_reducible first|exact qag _|exact qbg _)));go_wp2_with fail
 refine (lit_any _ b s p1 (c::la) 0 (deep + 1) oa ends (by exact HR2.out.drewN _) (by omega)).mono ?_
 intro e w3 hP3
 cases hlit:litF (c::la) 0 [] with
 | none =>
  rw [hlit] at hP3
  obtain ⟨rfl,⟨p3,hR3⟩,hg3⟩:=hP3
  have hz3:=keep hg3 HB4.out (by simp;omega)
  have hx3:=keep hg3 HB3.out (by simp;omega)
  have HG3:=Lib.hid (gr_same HG2.out (show w2.grownBy w3 (some b) from ⟨hg3.os,hg3.tape,hg3.output,hg3.size,hg3.block⟩))
  have hlt3:w.heap.size + 1 < w3.heap.size:=(Array.getElem?_eq_some_iff.1 hz3).1
  obtain ⟨z0,z1,z2,z3,z4,z5,z6,zf⟩:=zb_cells hz3
  have HZ3:=Lib.hid hz3
  have HX3:=Lib.hid hx3
  have HR3:=Lib.hid hR3;clear hR3
  clear hz3 hx3 hg3 c0 c1 c2 c3 c4 c5 cf d0 HG2 HR2 HB3 HB4
  go_wp2_with fail
  refine val_door HX3.out HZ3.out HR3.out HG3.out hbB hd0 (by omega) rfl ?_
  intro w' h1 h2 h3 h4
  rw [hlit]
  exact ⟨_,rfl,⟨_,_,_,_,_,_,_,_,_,_,_,rfl⟩,⟨p3,[],oa,failB 0 1,true,failB_ne _ _ (by decide),h1⟩,h2⟩
 | some q =>
  obtain ⟨t,r⟩:=q
  rw [hlit] at hP3
  obtain ⟨rfl,⟨p3,hR3⟩,hg3⟩:=hP3
  have hz3:=keep hg3 HB4.out (by simp;omega)
  have hx3:=keep hg3 HB3.out (by simp;omega)
  have HG3:=Lib.hid (gr_same HG2.out (show w2.grownBy w3 (some b) from ⟨hg3.os,hg3.tape,hg3.output,hg3.size,hg3.block⟩))
  have hlt3:w.heap.size + 1 < w3.heap.size:=(Array.getElem?_eq_some_iff.1 hz3).1
  obtain ⟨z0,z1,z2,z3,z4,z5,z6,zf⟩:=zb_cells hz3
  have HZ3:=Lib.hid hz3
  have HX3:=Lib.hid hx3
  have HR3:=Lib.hid hR3;clear hR3
  clear hz3 hx3 hg3 c0 c1 c2 c3 c4 c5 cf d0 HG2 HR2 HB3 HB4
  go_wp2_with fail
  refine val_door HX3.out HZ3.out HR3.out HG3.out hbB hd0 (by omega) rfl ?_
  intro w' h1 h2 h3 h4
  rw [hlit]
  exact ⟨nilS,nilS,fun _=>False,rfl,IsV.plain (by trivial),fun k hk=>hk.elim,⟨p3,h1⟩,h2⟩
end Go.Proofs.YtfkecmlmnhbmoaaGreatDoor
namespace Go.Proofs.YtfkecmlmnhbmoaaGreatDoor
open Go Go.RowKit
open Go.Maps
end Go.Proofs.YtfkecmlmnhbmoaaGreatDoor
namespace Go.Proofs.YtfkecmlmnhbmoaaGreatDoor
open Go Go.RowKit
open Go.Maps
theorem Tryz.info50':(Tryz.prog.info? 50).map (fun i=>(i.zero,i.size,i.bytes))=some (some .nilIface,1,16):=by kernel_rfl
theorem cells1_set {w:World} {b:Nat} {v:Value} {t:TypeId} (h:w.heap[b]?=some (.cells #[v] t (0,0))) (u:Value):(w.setCell ⟨b,0,none⟩ u).heap[b]?=some (.cells #[u] t (0,0)):=by
 simp [World.setCell,Array.getElem?_modify,h]
end Go.Proofs.YtfkecmlmnhbmoaaGreatDoor
namespace Go.Proofs.YtfkecmlmnhbmoaaGreatDoor
open Go Go.RowKit
set_option maxRecDepth 100000 in
set_option maxHeartbeats 40000000 in
theorem fmt_zero (w:World) (B:Nat) (v0:Value) (neg:Bool) (hown:OwnB B w v0 []) (hB:B≤w.heap.size) (sh:Bool) :
  Calls Tryz.prog 115 #[v0,.bool neg,.slice none 0 0,.int .i64 0,.int .i64 0,.int .i64 12,.int .u8 102,.bool sh] w fun e w'=>∃ v',e=.returned v'∧DstAt w w' v0 v' B (ftxt neg [] 0):=by
 obtain ⟨L,hL⟩:∃ L:By,L=[]:=⟨_,rfl⟩
 obtain ⟨z1,hz1⟩:∃ z:Nat,z=0:=⟨_,rfl⟩
 obtain ⟨offn,hoffn⟩:∃ z:Nat,z=0:=⟨_,rfl⟩
 obtain ⟨md,hmd⟩:∃ z:Nat,z=0:=⟨_,rfl⟩
 obtain ⟨tz,htz⟩:∃ z:Nat,z=12:=⟨_,rfl⟩
 have hz12:z1≤12:=by omega
 have hmd0:md≤0:=by omega
 have hmd12:z1 + md + tz=12:=by omega
 have Hfin:=Lib.hid (show ftxt neg [] 0=((if neg then [45] else []) ++ [48]) ++ 46::(List.replicate z1 48 ++ ((L.drop offn).take md ++ List.replicate tz 48)) from by
  rw [hL,hz1,hoffn,hmd,htz];cases neg<;>rfl)
 have HD:=Lib.hid (DstAt.start hown hB)
 have HZ:=Lib.hid (And.intro hz1 (And.intro hoffn (And.intro hmd htz)))
 clear hown hB hz1 hoffn hmd htz hL
 cases neg
 ·replace Hfin:=Lib.hid (show _=([48]:By) ++ 46::(List.replicate z1 48 ++ ((L.drop offn).take md ++ List.replicate tz 48)) from Hfin.out)
  have HLn:=Lib.hid (show ([]:By).length≤20 by simp)
  have HPl:=Lib.hid (show ([48]:By).length≤20 by simp)
  go_enter Tryz.func115,Tryz.ntmps115
  go_upto_region 67 with ((at_builtin;(refine wpList_pushD rfl (.tmp 209) (.tmp 210) rfl B _ ([]:By) 48 _ rfl (OwnB.alloc HD.out.own _) _ rfl (by rw [World.cell?_alloc_at _ _ _ _ (by simp)];rfl) rfl (by have:=HLn.out;omega) (by have:=HD.out.base;have:=HD.out.gr.size;simp;omega) ?_));intro v1 w1 hown1 hgr1 hat1;have HD1:=Lib.hid (HD.out.push hown1 hgr1 hat1);clear hown1 hgr1 hat1)
  replace HD:=Lib.hid (show DstAt w w1 v0 v1 B [48] from HD1.out)
  clear HD1
  replace HLn:=HPl
  obtain ⟨P,hP⟩:∃ P:By,P=[48]:=⟨_,rfl⟩
  rw [←hP] at Hfin HPl HLn HD
  clear hP
  go_upto_region 69 with ((at_builtin;(refine wpList_pushD rfl (.tmp 214) (.tmp 215) rfl B _ P 46 _ rfl (OwnB.alloc HD.out.own _) _ rfl (by rw [World.cell?_alloc_at _ _ _ _ (by simp)];rfl) rfl (by have:=HLn.out;omega) (by have:=HD.out.base;have:=HD.out.gr.size;simp;omega) ?_));intro v1 w1 hown1 hgr1 hat1;have HD1:=Lib.hid (HD.out.push hown1 hgr1 hat1);clear hown1 hgr1 hat1)
  clear HD
  go_cut [26] from 217 to 221 (fun tt wr=>tt=.int .i64 (z1:Nat)∧w1=wr)
  case first =>
   go_wp2_with fail
   all_goals
    go_meet
    case rel =>
     obtain ⟨q1,q2,q3,q4⟩:=HZ.out
     exact ⟨congrArg (Value.int .i64) (by omega),rfl⟩
  obtain ⟨rfl,rfl⟩:=hcut
  go_upto_region 71 with (fail)
  go_cut [28] from 225 to 232 (fun tt wr=>tt=.int .i64 (md:Nat)∧w1=wr)
  case first =>
   go_wp2_with fail
   all_goals
    go_meet
    case rel =>
     obtain ⟨q1,q2,q3,q4⟩:=HZ.out
     exact ⟨congrArg (Value.int .i64) (by omega),rfl⟩
  obtain ⟨rfl,rfl⟩:=hcut
  go_upto_region 72 with (fail)
  go_cut [29] from 233 to 238 (fun tt wr=>tt=.int .i64 (tz:Nat)∧w1=wr)
  case first =>
   go_wp2_with fail
   all_goals
    go_meet
    case rel =>
     obtain ⟨q1,q2,q3,q4⟩:=HZ.out
     exact ⟨congrArg (Value.int .i64) (by omega),rfl⟩
  obtain ⟨rfl,rfl⟩:=hcut
  go_wp2_with fail
  go_loopg [0,240] z1 (fun g t0 t240 wr=>∃ i v l,t240=.int .i64 (i:Nat)∧t0=v∧i≤z1∧g=z1 - i∧l=P ++ 46::List.replicate i 48∧l.length≤100∧DstAt w wr v0 v B l)
  case atStart=>exact ⟨0,_,_,rfl,rfl,Nat.zero_le _,rfl,rfl,by have:=HPl.out;simp;omega,HD1.out⟩
  case round =>
   clear HD1
   obtain ⟨i,v,l,rfl,rfl,hi,hg,hl,hln,hD⟩:=hrel
   have Hg:=Lib.hid hg
   have Hl:=Lib.hid hl
   have HLn:=Lib.hid hln
   have HD:=Lib.hid hD
   clear hg hl hln hD
   by_cases hiz:i < z1
   ·have hnm:(i:Int) < z1:=by omega
    go_wp2_with ((at_builtin;(refine wpList_pushD rfl (.tmp 242) (.tmp 243) rfl B _ l 48 _ rfl (OwnB.alloc HD.out.own _) _ rfl (by rw [World.cell?_alloc_at _ _ _ _ (by simp)];rfl) rfl (by have:=HLn.out;omega) (by have:=HD.out.base;have:=HD.out.gr.size;simp;omega) ?_));intro v1 w1 hown1 hgr1 hat1;have HD1:=Lib.hid (HD.out.push hown1 hgr1 hat1);clear hown1 hgr1 hat1)
    go_wp2_with fail
    go_roundg (z1 - (i + 1))
    case measure=>rw [Hg.out];omega
    case rel=>exact ⟨i + 1,_,_,by simp,rfl,by omega,rfl,by rw [Hl.out,List.replicate_succ'];simp,by have:=HPl.out;have:=hz12;rw [Hl.out];simp;omega,HD1.out⟩
   ·obtain rfl:i=z1:=by omega
    have hnm:¬(i:Int) < i:=by omega
    go_wp2_with fail
    go_loopg [0,247] md (fun g t0 t247 wr=>∃ j v l,t247=.int .i64 (j:Nat)∧t0=v∧j≤md∧g=md - j∧l=P ++ 46::(List.replicate i 48 ++ (L.drop offn).take j)∧l.length≤100∧DstAt w wr v0 v B l)
    case atStart=>exact ⟨0,_,_,rfl,rfl,Nat.zero_le _,rfl,by rw [Hl.out];simp,HLn.out,HD.out⟩
    case round =>
     clear HD HLn Hl Hg
     obtain ⟨j,v,l,rfl,rfl,hj,hg,hl,hln,hD⟩:=hrel
     have Hg:=Lib.hid hg
     have Hl:=Lib.hid hl
     have HLn:=Lib.hid hln
     have HD:=Lib.hid hD
     clear hg hl hln hD
     by_cases hjm:j < md
     ·exfalso;omega
     ·obtain rfl:j=md:=by omega
      have hnm2:¬(j:Int) < j:=by omega
      go_wp2_with fail
      go_loopg [0,261] tz (fun g t0 t261 wr=>∃ k v l,t261=.int .i64 (k:Nat)∧t0=v∧k≤tz∧g=tz - k∧l=P ++ 46::(List.replicate i 48 ++ ((L.drop offn).take j ++ List.replicate k 48))∧l.length≤100∧DstAt w wr v0 v B l)
      case atStart=>exact ⟨0,_,_,rfl,rfl,Nat.zero_le _,rfl,by rw [Hl.out];simp,HLn.out,HD.out⟩
      case round =>
       clear HD HLn Hl Hg
       obtain ⟨k,v,l,rfl,rfl,hk,hg,hl,hln,hD⟩:=hrel
       have Hg:=Lib.hid hg
       have Hl:=Lib.hid hl
       have HLn:=Lib.hid hln
       have HD:=Lib.hid hD
       clear hg hl hln hD
       by_cases hkt:k < tz
       ·have hnm3:(k:Int) < tz:=by omega
        go_wp2_with ((at_builtin;(refine wpList_pushD rfl (.tmp 263) (.tmp 264) rfl B _ l 48 _ rfl (OwnB.alloc HD.out.own _) _ rfl (by rw [World.cell?_alloc_at _ _ _ _ (by simp)];rfl) rfl (by have:=HLn.out;omega) (by have:=HD.out.base;have:=HD.out.gr.size;simp;omega) ?_));intro v1 w1 hown1 hgr1 hat1;have HD1:=Lib.hid (HD.out.push hown1 hgr1 hat1);clear hown1 hgr1 hat1)
        go_wp2_with fail
        go_roundg (tz - (k + 1))
        case measure=>rw [Hg.out];omega
        case rel=>exact ⟨k + 1,_,_,by simp,rfl,by omega,rfl,by rw [Hl.out,List.replicate_succ'];simp,by have:=HPl.out;have:=hmd12;rw [Hl.out];simp;omega,HD1.out⟩
       ·obtain rfl:k=tz:=by omega
        have hnm3:¬(k:Int) < k:=by omega
        go_wp2_with fail
        go_ret
        refine ⟨_,rfl,?_⟩
        rw [Hfin.out,←Hl.out]
        exact HD.out
 ·replace Hfin:=Lib.hid (show _=([45,48]:By) ++ 46::(List.replicate z1 48 ++ ((L.drop offn).take md ++ List.replicate tz 48)) from Hfin.out)
  have HLn:=Lib.hid (show ([]:By).length≤20 by simp)
  have HPl:=Lib.hid (show ([45,48]:By).length≤20 by simp)
  go_enter Tryz.func115,Tryz.ntmps115
  go_upto_region 55 with ((at_builtin;(refine wpList_pushD rfl (.tmp 179) (.tmp 180) rfl B _ ([]:By) 45 _ rfl (OwnB.alloc HD.out.own _) _ rfl (by rw [World.cell?_alloc_at _ _ _ _ (by simp)];rfl) rfl (by have:=HLn.out;omega) (by have:=HD.out.base;have:=HD.out.gr.size;simp;omega) ?_));intro v1 w1 hown1 hgr1 hat1;have HD1:=Lib.hid (HD.out.push hown1 hgr1 hat1);clear hown1 hgr1 hat1)
  replace HD:=Lib.hid (show DstAt w w1 v0 v1 B [45] from HD1.out)
  clear HD1
  replace HLn:=Lib.hid (show ([45]:By).length≤20 by simp)
  go_upto_region 67 with ((at_builtin;(refine wpList_pushD rfl (.tmp 209) (.tmp 210) rfl B _ ([45]:By) 48 _ rfl (OwnB.alloc HD.out.own _) _ rfl (by rw [World.cell?_alloc_at _ _ _ _ (by simp)];rfl) rfl (by have:=HLn.out;omega) (by have:=HD.out.base;have:=HD.out.gr.size;simp;omega) ?_));intro v1 w1 hown1 hgr1 hat1;have HD1:=Lib.hid (HD.out.push hown1 hgr1 hat1);clear hown1 hgr1 hat1)
  replace HD:=Lib.hid (show DstAt w _ v0 _ B [45,48] from HD1.out)
  clear HD1
  replace HLn:=HPl
  obtain ⟨P,hP⟩:∃ P:By,P=[45,48]:=⟨_,rfl⟩
  rw [←hP] at Hfin HPl HLn HD
  clear hP
  go_upto_region 69 with ((at_builtin;(refine wpList_pushD rfl (.tmp 214) (.tmp 215) rfl B _ P 46 _ rfl (OwnB.alloc HD.out.own _) _ rfl (by rw [World.cell?_alloc_at _ _ _ _ (by simp)];rfl) rfl (by have:=HLn.out;omega) (by have:=HD.out.base;have:=HD.out.gr.size;simp;omega) ?_));intro v1 w1 hown1 hgr1 hat1;have HD1:=Lib.hid (HD.out.push hown1 hgr1 hat1);clear hown1 hgr1 hat1)
  clear HD
  go_cut [26] from 217 to 221 (fun tt wr=>tt=.int .i64 (z1:Nat)∧w1=wr)
  case first =>
   go_wp2_with fail
   all_goals
    go_meet
    case rel =>
     obtain ⟨q1,q2,q3,q4⟩:=HZ.out
     exact ⟨congrArg (Value.int .i64) (by omega),rfl⟩
  obtain ⟨rfl,rfl⟩:=hcut
  go_upto_region 71 with (fail)
  go_cut [28] from 225 to 232 (fun tt wr=>tt=.int .i64 (md:Nat)∧w1=wr)
  case first =>
   go_wp2_with fail
   all_goals
    go_meet
    case rel =>
     obtain ⟨q1,q2,q3,q4⟩:=HZ.out
     exact ⟨congrArg (Value.int .i64) (by omega),rfl⟩
  obtain ⟨rfl,rfl⟩:=hcut
  go_upto_region 72 with (fail)
  go_cut [29] from 233 to 238 (fun tt wr=>tt=.int .i64 (tz:Nat)∧w1=wr)
  case first =>
   go_wp2_with fail
   all_goals
    go_meet
    case rel =>
     obtain ⟨q1,q2,q3,q4⟩:=HZ.out
     exact ⟨congrArg (Value.int .i64) (by omega),rfl⟩
  obtain ⟨rfl,rfl⟩:=hcut
  go_wp2_with fail
  go_loopg [0,240] z1 (fun g t0 t240 wr=>∃ i v l,t240=.int .i64 (i:Nat)∧t0=v∧i≤z1∧g=z1 - i∧l=P ++ 46::List.replicate i 48∧l.length≤100∧DstAt w wr v0 v B l)
  case atStart=>exact ⟨0,_,_,rfl,rfl,Nat.zero_le _,rfl,rfl,by have:=HPl.out;simp;omega,HD1.out⟩
  case round =>
   clear HD1
   obtain ⟨i,v,l,rfl,rfl,hi,hg,hl,hln,hD⟩:=hrel
   have Hg:=Lib.hid hg
   have Hl:=Lib.hid hl
   have HLn:=Lib.hid hln
   have HD:=Lib.hid hD
   clear hg hl hln hD
   by_cases hiz:i < z1
   ·have hnm:(i:Int) < z1:=by omega
    go_wp2_with ((at_builtin;(refine wpList_pushD rfl (.tmp 242) (.tmp 243) rfl B _ l 48 _ rfl (OwnB.alloc HD.out.own _) _ rfl (by rw [World.cell?_alloc_at _ _ _ _ (by simp)];rfl) rfl (by have:=HLn.out;omega) (by have:=HD.out.base;have:=HD.out.gr.size;simp;omega) ?_));intro v1 w1 hown1 hgr1 hat1;have HD1:=Lib.hid (HD.out.push hown1 hgr1 hat1);clear hown1 hgr1 hat1)
    go_wp2_with fail
    go_roundg (z1 - (i + 1))
    case measure=>rw [Hg.out];omega
    case rel=>exact ⟨i + 1,_,_,by simp,rfl,by omega,rfl,by rw [Hl.out,List.replicate_succ'];simp,by have:=HPl.out;have:=hz12;rw [Hl.out];simp;omega,HD1.out⟩
   ·obtain rfl:i=z1:=by omega
    have hnm:¬(i:Int) < i:=by omega
    go_wp2_with fail
    go_loopg [0,247] md (fun g t0 t247 wr=>∃ j v l,t247=.int .i64 (j:Nat)∧t0=v∧j≤md∧g=md - j∧l=P ++ 46::(List.replicate i 48 ++ (L.drop offn).take j)∧l.length≤100∧DstAt w wr v0 v B l)
    case atStart=>exact ⟨0,_,_,rfl,rfl,Nat.zero_le _,rfl,by rw [Hl.out];simp,HLn.out,HD.out⟩
    case round =>
     clear HD HLn Hl Hg
     obtain ⟨j,v,l,rfl,rfl,hj,hg,hl,hln,hD⟩:=hrel
     have Hg:=Lib.hid hg
     have Hl:=Lib.hid hl
     have HLn:=Lib.hid hln
     have HD:=Lib.hid hD
     clear hg hl hln hD
     by_cases hjm:j < md
     ·exfalso;omega
     ·obtain rfl:j=md:=by omega
      have hnm2:¬(j:Int) < j:=by omega
      go_wp2_with fail
      go_loopg [0,261] tz (fun g t0 t261 wr=>∃ k v l,t261=.int .i64 (k:Nat)∧t0=v∧k≤tz∧g=tz - k∧l=P ++ 46::(List.replicate i 48 ++ ((L.drop offn).take j ++ List.replicate k 48))∧l.length≤100∧DstAt w wr v0 v B l)
      case atStart=>exact ⟨0,_,_,rfl,rfl,Nat.zero_le _,rfl,by rw [Hl.out];simp,HLn.out,HD.out⟩
      case round =>
       clear HD HLn Hl Hg
       obtain ⟨k,v,l,rfl,rfl,hk,hg,hl,hln,hD⟩:=hrel
       have Hg:=Lib.hid hg
       have Hl:=Lib.hid hl
       have HLn:=Lib.hid hln
       have HD:=Lib.hid hD
       clear hg hl hln hD
       by_cases hkt:k < tz
       ·have hnm3:(k:Int) < tz:=by omega
        go_wp2_with ((at_builtin;(refine wpList_pushD rfl (.tmp 263) (.tmp 264) rfl B _ l 48 _ rfl (OwnB.alloc HD.out.own _) _ rfl (by rw [World.cell?_alloc_at _ _ _ _ (by simp)];rfl) rfl (by have:=HLn.out;omega) (by have:=HD.out.base;have:=HD.out.gr.size;simp;omega) ?_));intro v1 w1 hown1 hgr1 hat1;have HD1:=Lib.hid (HD.out.push hown1 hgr1 hat1);clear hown1 hgr1 hat1)
        go_wp2_with fail
        go_roundg (tz - (k + 1))
        case measure=>rw [Hg.out];omega
        case rel=>exact ⟨k + 1,_,_,by simp,rfl,by omega,rfl,by rw [Hl.out,List.replicate_succ'];simp,by have:=HPl.out;have:=hmd12;rw [Hl.out];simp;omega,HD1.out⟩
       ·obtain rfl:k=tz:=by omega
        have hnm3:¬(k:Int) < k:=by omega
        go_wp2_with fail
        go_ret
        refine ⟨_,rfl,?_⟩
        rw [Hfin.out,←Hl.out]
        exact HD.out
end Go.Proofs.YtfkecmlmnhbmoaaGreatDoor
namespace Go.Proofs.YtfkecmlmnhbmoaaGreatDoor
open Go Go.RowKit
theorem bv_and (a m:Nat) (ha:a < 18446744073709551616) (hm:m < 18446744073709551616):(BitVec.ofInt 64 (a:Int) &&& BitVec.ofInt 64 (m:Int)).toNat=a &&& m:=by
 rw [BitVec.toNat_and,BitVec.ofInt_natCast,BitVec.ofInt_natCast,BitVec.toNat_ofNat,BitVec.toNat_ofNat,Nat.mod_eq_of_lt (by omega),Nat.mod_eq_of_lt (by omega)]
theorem bv_or (a m:Nat) (ha:a < 18446744073709551616) (hm:m < 18446744073709551616):(BitVec.ofInt 64 (a:Int) ||| BitVec.ofInt 64 (m:Int)).toNat=a ||| m:=by
 rw [BitVec.toNat_or,BitVec.ofInt_natCast,BitVec.ofInt_natCast,BitVec.toNat_ofNat,BitVec.toNat_ofNat,Nat.mod_eq_of_lt (by omega),Nat.mod_eq_of_lt (by omega)]
theorem and_exp (h:Nat) (hh:h < 4096):bits .and .i64 (h:Int) 2047=((h % 2048:Nat):Int):=by
 have e:bits .and .i64 (h:Int) 2047=IntKind.i64.wrap ((BitVec.ofInt 64 (h:Int) &&& BitVec.ofInt 64 ((2047:Nat):Int)).toNat:Int):=rfl
 rw [e,bv_and h 2047 (by omega) (by omega)]
 have:=Nat.and_two_pow_sub_one_eq_mod h 11
 rw [show (2:Nat) ^ 11 - 1=2047 by decide,show (2:Nat) ^ 11=2048 by decide] at this
 rw [this]
 exact IntWalk.i64_in _ (by omega)
theorem and_frac (x:Nat) (hx:x < 18446744073709551616):bits .and .u64 (x:Int) 4503599627370495=((x % 4503599627370496:Nat):Int):=by
 have e:bits .and .u64 (x:Int) 4503599627370495=IntKind.u64.wrap ((BitVec.ofInt 64 (x:Int) &&& BitVec.ofInt 64 ((4503599627370495:Nat):Int)).toNat:Int):=rfl
 rw [e,bv_and x 4503599627370495 hx (by omega)]
 have:=Nat.and_two_pow_sub_one_eq_mod x 52
 rw [show (2:Nat) ^ 52 - 1=4503599627370495 by decide,show (2:Nat) ^ 52=4503599627370496 by decide] at this
 rw [this,IntKind.wrap_u64]
 omega
theorem or_one (f:Nat) (hf:f < 4503599627370496):bits .or .u64 (f:Int) 4503599627370496=((f + 4503599627370496:Nat):Int):=by
 have e:bits .or .u64 (f:Int) 4503599627370496=IntKind.u64.wrap ((BitVec.ofInt 64 (f:Int) ||| BitVec.ofInt 64 ((4503599627370496:Nat):Int)).toNat:Int):=rfl
 rw [e,bv_or f 4503599627370496 (by omega) (by omega)]
 have:=Nat.two_pow_add_eq_or_of_lt (i:=52) (b:=f) (by simpa using hf) 1
 rw [Nat.mul_one,show (2:Nat) ^ 52=4503599627370496 by decide,Nat.or_comm] at this
 rw [←this,IntKind.wrap_u64]
 omega
theorem run_bits64 (x:Nat) (w:World):(callFunc 112 #[.float .f64 x]).run Tryz.prog w=.ok (.value (.int .u64 x)) w:=by
 rw [run_callFunc_extern Tryz.func112 (by kernel_rfl) (by kernel_rfl) (by kernel_rfl) (e:=Extern.MathFloatBits.float64bits) (by kernel_rfl)]
 rfl
def Ft64 (W0:World) (x:Nat) (t:By):Prop:=∀ (w:World) (B:Nat) (v0:Value),OwnB B w v0 []→B≤w.heap.size→Env W0 w →
 Calls Tryz.prog 91 #[v0,.float .f64 x,.int .u8 102,.int .i64 12] w fun e w'=>∃ v',e=.returned v'∧DstAt w w' v0 v' B t
theorem DstAt.pre {w w1 w2:World} {v0 v:Value} {B:Nat} {l:By} (h:DstAt w1 w2 v0 v B l) (hg:w.grownBy w1 none) (hB:B≤w.heap.size):DstAt w w2 v0 v B l:=by
 have hs:=hg.size
 refine ⟨h.own,(gr_weak hg _).trans h.gr,?_,hB⟩
 rcases h.blk with e | ⟨j,e,hj⟩
 ·exact .inl e
 ·exact .inr ⟨j,e,by omega⟩
end Go.Proofs.YtfkecmlmnhbmoaaGreatDoor
namespace Go.Proofs.YtfkecmlmnhbmoaaGreatDoor
open Go Go.RowKit
set_option maxRecDepth 100000 in
set_option maxHeartbeats 40000000 in
theorem ft_zero (W0:World) (x:Nat) (neg:Bool) (hx:x=if neg then 9223372036854775808 else 0):Ft64 W0 x (ftxt neg [] 0):=by
 have hfb:=run_bits64
 have q2:∃ hp:Nat,(x:Int) / 4503599627370496=(hp:Int)∧hp < 4096∧bits .and .i64 (hp:Int) 2047=0:=by
  refine ⟨x / 4503599627370496,by omega,by split at hx<;>omega,?_⟩
  rw [and_exp _ (by split at hx<;>omega)]
  split at hx<;>(subst hx;rfl)
 obtain ⟨hp,q2,q2b,q3⟩:=q2
 have q4:bits .and .u64 (x:Int) 4503599627370495=0:=by
  rw [and_frac x (by split at hx<;>omega)]
  split at hx<;>(subst hx;rfl)
 have hxl:x < 18446744073709551616:=by split at hx<;>omega
 cases neg
 ·have q1:(x:Int) / 9223372036854775808=0:=by simp at hx;omega
  clear hx
  intro w B v0 hown hB hE
  have Hown:=Lib.hid hown
  clear hown hE
  go_enter Tryz.func91,Tryz.ntmps91
  go_wp2_with fail
  go_quiet ((first|(go_at_call 42;with_reducible first|exact qaw _|exact qbw _)|(go_at_call 43;with_reducible first|exact qap _|exact qbp _)|(go_at_call 52;with_reducible first|exact qad _|exact qbd _)|(go_at_call 76;with_reducible first|exact qar _|exact qbr _)|(go_at_call 75;with_reducible first|exact qag _|exact qbg _)));go_wp2_with fail
  refine (fmt_zero _ B v0 false (by exact Hown.out) (by exact hB) false).mono ?_
  rintro e w1 ⟨v',rfl,hD⟩
  have HD:=Lib.hid hD
  clear hD
  go_wp2_with fail
  go_ret
  exact ⟨_,rfl,HD.out.pre (gr_drewN (World.grownBy.refl _ _) _) hB⟩
 ·have q1:(x:Int) / 9223372036854775808=1:=by simp at hx;omega
  clear hx
  intro w B v0 hown hB hE
  have Hown:=Lib.hid hown
  clear hown hE
  go_enter Tryz.func91,Tryz.ntmps91
  go_wp2_with fail
  go_quiet ((first|(go_at_call 42;with_reducible first|exact qaw _|exact qbw _)|(go_at_call 43;with_reducible first|exact qap _|exact qbp _)|(go_at_call 52;with_reducible first|exact qad _|exact qbd _)|(go_at_call 76;with_reducible first|exact qar _|exact qbr _)|(go_at_call 75;with_reducible first|exact qag _|exact qbg _)));go_wp2_with fail
  refine (fmt_zero _ B v0 true (by exact Hown.out) (by exact hB) false).mono ?_
  rintro e w1 ⟨v',rfl,hD⟩
  have HD:=Lib.hid hD
  clear hD
  go_wp2_with fail
  go_ret
  exact ⟨_,rfl,HD.out.pre (gr_drewN (World.grownBy.refl _ _) _) hB⟩
theorem parts (x sg ef fr:Nat) (hx:x=sg * 9223372036854775808 + ef * 4503599627370496 + fr) (hs:sg≤1) (he:ef≤2046) (hf:fr < 4503599627370496) :
  (x:Int) / 9223372036854775808=(sg:Int)∧(∃ hp:Nat,(x:Int) / 4503599627370496=(hp:Int)∧hp < 4096∧bits .and .i64 (hp:Int) 2047=(ef:Int))∧bits .and .u64 (x:Int) 4503599627370495=(fr:Int)∧x < 18446744073709551616:=by
 refine ⟨by omega,⟨x / 4503599627370496,by omega,by omega,?_⟩,?_,by omega⟩
 ·rw [and_exp _ (by omega)]
  congr 1;omega
 ·rw [and_frac x (by omega)]
  congr 1;omega
set_option maxRecDepth 100000 in
set_option maxHeartbeats 40000000 in
theorem ft_sub (W0:World) (hF:FInit W0) (x sg fr:Nat) (hx:x=sg * 9223372036854775808 + 0 * 4503599627370496 + fr) (hs:sg≤1) (hf:fr < 4503599627370496) (hf0:0 < fr):Ft64 W0 x (ftxt (sg == 1) [] 0):=by
 have hfb:=run_bits64
 obtain ⟨q1,⟨hp,q2,q2b,q3⟩,q4,hxl⟩:=parts x sg 0 fr hx hs (by omega) hf
 clear hx
 have hs2:sg=0∨sg=1:=by omega
 have hf1:((fr:Int) == 0)=false:=by simp;omega
 have hf2:((fr:Int) != 0)=true:=by simp;omega
 have hd1:(1022:Int) * 78913 / 262144=307:=by decide
 rcases hs2 with rfl | rfl
 ·intro w B v0 hown hB hE
  have Hown:=Lib.hid hown
  have HE:=Lib.hid hE
  have hopt:=hE.cell hF.opt
  clear hown hE
  go_enter Tryz.func91,Tryz.ntmps91
  go_wp2_with fail
  go_quiet ((first|(go_at_call 42;with_reducible first|exact qaw _|exact qbw _)|(go_at_call 43;with_reducible first|exact qap _|exact qbp _)|(go_at_call 52;with_reducible first|exact qad _|exact qbd _)|(go_at_call 76;with_reducible first|exact qar _|exact qbr _)|(go_at_call 75;with_reducible first|exact qag _|exact qbg _)));go_wp2_with fail
  refine (l10_any _ _ (by omega) (by omega)).mono ?_
  rintro e w1 ⟨rfl,hw⟩
  subst w1
  go_wp2_with fail
  refine (fmt_any _ B v0 false [] 0 (w.drewN nq).heap.size 24 24 (by simp) (by omega) (by omega) (by simp) (fun e=>by have:=(Hown.out.lt _ e);simp at this) (fun i c h=>by simp at h) (by exact OwnB.alloc (OwnB.drewN Hown.out _) _) (by simp;omega) (by omega) (by omega) false).mono ?_
  rintro e w1 ⟨v',rfl,hD⟩
  have HD:=Lib.hid hD
  clear hD
  go_wp2_with fail
  go_ret
  refine ⟨_,rfl,HD.out.pre ?_ hB⟩
  exact gr_alloc (gr_drewN (World.grownBy.refl _ _) _) _
 ·intro w B v0 hown hB hE
  have Hown:=Lib.hid hown
  have HE:=Lib.hid hE
  have hopt:=hE.cell hF.opt
  clear hown hE
  go_enter Tryz.func91,Tryz.ntmps91
  go_wp2_with fail
  go_quiet ((first|(go_at_call 42;with_reducible first|exact qaw _|exact qbw _)|(go_at_call 43;with_reducible first|exact qap _|exact qbp _)|(go_at_call 52;with_reducible first|exact qad _|exact qbd _)|(go_at_call 76;with_reducible first|exact qar _|exact qbr _)|(go_at_call 75;with_reducible first|exact qag _|exact qbg _)));go_wp2_with fail
  refine (l10_any _ _ (by omega) (by omega)).mono ?_
  rintro e w1 ⟨rfl,hw⟩
  subst w1
  go_wp2_with fail
  refine (fmt_any _ B v0 true [] 0 (w.drewN nq).heap.size 24 24 (by simp) (by omega) (by omega) (by simp) (fun e=>by have:=(Hown.out.lt _ e);simp at this) (fun i c h=>by simp at h) (by exact OwnB.alloc (OwnB.drewN Hown.out _) _) (by simp;omega) (by omega) (by omega) false).mono ?_
  rintro e w1 ⟨v',rfl,hD⟩
  have HD:=Lib.hid hD
  clear hD
  go_wp2_with fail
  go_ret
  refine ⟨_,rfl,HD.out.pre ?_ hB⟩
  exact gr_alloc (gr_drewN (World.grownBy.refl _ _) _) _
set_option maxRecDepth 100000 in
set_option maxHeartbeats 40000000 in
theorem ft_tiny (W0:World) (hF:FInit W0) (x sg ef fr:Nat) (hx:x=sg * 9223372036854775808 + ef * 4503599627370496 + fr) (hs:sg≤1) (he1:1≤ef) (he:ef≤979) (hf:fr < 4503599627370496):Ft64 W0 x (ftxt (sg == 1) [] 0):=by
 have hfb:=run_bits64
 obtain ⟨q1,⟨hp,q2,q2b,q3⟩,q4,hxl⟩:=parts x sg ef fr hx hs (by omega) hf
 have q5:=or_one fr hf
 obtain ⟨mt,hmt⟩:∃ mt,mt=fr + 4503599627370496:=⟨_,rfl⟩
 rw [←hmt] at q5
 have hmt1:((mt:Int) == 0)=false:=by simp;omega
 have hmt2:((mt:Int) != 0)=true:=by simp;omega
 have he3:((ef:Int) == 0)=false:=by simp;omega
 have he4:((ef:Int) == 2047)=false:=by simp;omega
 clear hx hmt
 have hs2:sg=0∨sg=1:=by omega
 rcases hs2 with rfl | rfl
 ·intro w B v0 hown hB hE
  have Hown:=Lib.hid hown
  have HE:=Lib.hid hE
  have hopt:=hE.cell hF.opt
  clear hown hE
  go_enter Tryz.func91,Tryz.ntmps91
  go_wp2_with fail
  go_quiet ((first|(go_at_call 42;with_reducible first|exact qaw _|exact qbw _)|(go_at_call 43;with_reducible first|exact qap _|exact qbp _)|(go_at_call 52;with_reducible first|exact qad _|exact qbd _)|(go_at_call 76;with_reducible first|exact qar _|exact qbr _)|(go_at_call 75;with_reducible first|exact qag _|exact qbg _)));go_wp2_with fail
  refine (l10_any _ _ (by omega) (by omega)).mono ?_
  rintro e w1 ⟨rfl,hw⟩
  subst w1
  go_wp2_with fail
  refine (fmt_any _ B v0 false [] 0 (w.drewN nq).heap.size 24 24 (by simp) (by omega) (by omega) (by simp) (fun e=>by have:=(Hown.out.lt _ e);simp at this) (fun i c h=>by simp at h) (by exact OwnB.alloc (OwnB.drewN Hown.out _) _) (by simp;omega) (by omega) (by omega) false).mono ?_
  rintro e w1 ⟨v',rfl,hD⟩
  have HD:=Lib.hid hD
  clear hD
  go_wp2_with fail
  go_ret
  refine ⟨_,rfl,HD.out.pre ?_ hB⟩
  exact gr_alloc (gr_drewN (World.grownBy.refl _ _) _) _
 ·intro w B v0 hown hB hE
  have Hown:=Lib.hid hown
  have HE:=Lib.hid hE
  have hopt:=hE.cell hF.opt
  clear hown hE
  go_enter Tryz.func91,Tryz.ntmps91
  go_wp2_with fail
  go_quiet ((first|(go_at_call 42;with_reducible first|exact qaw _|exact qbw _)|(go_at_call 43;with_reducible first|exact qap _|exact qbp _)|(go_at_call 52;with_reducible first|exact qad _|exact qbd _)|(go_at_call 76;with_reducible first|exact qar _|exact qbr _)|(go_at_call 75;with_reducible first|exact qag _|exact qbg _)));go_wp2_with fail
  refine (l10_any _ _ (by omega) (by omega)).mono ?_
  rintro e w1 ⟨rfl,hw⟩
  subst w1
  go_wp2_with fail
  refine (fmt_any _ B v0 true [] 0 (w.drewN nq).heap.size 24 24 (by simp) (by omega) (by omega) (by simp) (fun e=>by have:=(Hown.out.lt _ e);simp at this) (fun i c h=>by simp at h) (by exact OwnB.alloc (OwnB.drewN Hown.out _) _) (by simp;omega) (by omega) (by omega) false).mono ?_
  rintro e w1 ⟨v',rfl,hD⟩
  have HD:=Lib.hid hD
  clear hD
  go_wp2_with fail
  go_ret
  refine ⟨_,rfl,HD.out.pre ?_ hB⟩
  exact gr_alloc (gr_drewN (World.grownBy.refl _ _) _) _
end Go.Proofs.YtfkecmlmnhbmoaaGreatDoor
