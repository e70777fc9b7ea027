/- The texts N1 F15 F14 P12 P13 G1 G2 G3 P15 P16 J1 J2 of the workbench, laid together. -/
import Derived.Test.YtfkecmlmnhbmoaaGreatDoorProg
import Derived.WalkKit
import Derived.WalkLawsBesides
import Derived.WalkSpells
import Derived.BigQuiet
import Derived.BigRegion
import Derived.Deep.QuietTactic
import Derived.Deep.RegionHeld3
import Derived.Deep.LoopGhost
import Derived.StillTailTactics
import Derived.Lib.Hide
import Derived.Laws.EntriesVeiled
import Derived.Laws.Bits64b
import Derived.Laws.Externs
import Derived.Deep.Cut
import Derived.WalkMore
import Derived.IntWalk
import Derived.Shelf.GgClosure.StringsTrimFunc
import Derived.Laws.RangeString
import Derived.Lib.OthersKept
import Derived.Test.YtfkecmlmnhbmoaaGreatDoorY7
import Derived.Test.YtfkecmlmnhbmoaaGreatDoorY9
import Derived.Test.YtfkecmlmnhbmoaaGreatDoorY15
import Derived.Test.YtfkecmlmnhbmoaaGreatDoorY18
set_option linter.unusedVariables false
set_option linter.unusedSimpArgs false
namespace Go.Proofs.YtfkecmlmnhbmoaaGreatDoor
open Go Go.RowKit
def nnF (x:Nat):Prop:=FloatKind.f64.format.order x x=some Ordering.eq
theorem order_num (s:Bool) (m:Nat) (j:Int):(Ieee.Datum.number s m j).order (.number s m j)=some Ordering.eq:=by
 simp [Ieee.Datum.order]
theorem order_inf (s:Bool):(Ieee.Datum.infinity s).order (.infinity s)=some Ordering.eq:=by
 cases s<;>decide
theorem nnF_num {x:Nat} (h:∃ s m j,FloatKind.f64.format.read x=.number s m j):nnF x:=by
 obtain ⟨s,m,j,e⟩:=h
 unfold nnF Ieee.Format.order
 rw [e]
 exact order_num s m j
theorem nnF_of {x:Nat} (h:x % 9223372036854775808≤9218868437227405312):nnF x:=by
 unfold nnF
 have e1:FloatKind.f64.format=Ieee.double:=rfl
 rw [e1]
 unfold Ieee.Format.order
 have key:(∃ s m j,Ieee.double.read x=.number s m j)∨∃ s,Ieee.double.read x=.infinity s:=by
  have e2:Ieee.double.signWeight=9223372036854775808:=by decide
  have e3:Ieee.double.infRung=9218868437227405312:=by decide
  unfold Ieee.Format.read
  simp only [e2,e3]
  split
  ·exact .inl ⟨_,_,_,rfl⟩
  ·split
   ·exact .inl ⟨_,_,_,rfl⟩
   ·split
    ·exact .inr ⟨_,rfl⟩
    ·exfalso;omega
 rcases key with ⟨s,m,j,e⟩ | ⟨s,e⟩
 ·rw [e];exact order_num s m j
 ·rw [e];exact order_inf s
theorem nnF_word {k:Nat} (neg:Bool) (h:k≤9218868437227405312):nnF (Ieee.double.word neg k):=by
 have e2:Ieee.double.signWeight=9223372036854775808:=by decide
 apply nnF_of
 unfold Ieee.Format.word
 rw [e2]
 cases neg
 ·simp only [Bool.false_eq_true,if_false];omega
 ·simp only [if_true];omega
theorem nnF_nearest (neg:Bool) (m:Nat) (p:Int):nnF (Ieee.double.nearest neg m p):=by
 have e3:Ieee.double.infRung=9218868437227405312:=by decide
 unfold Ieee.Format.nearest
 by_cases h0:m=0
 ·rw [if_pos h0];exact nnF_word neg (by omega)
 ·rw [if_neg h0];exact nnF_word neg (by rw [←e3];exact Nat.min_le_right _ _)
theorem u64_and_le (a:Int) (k:Nat) (hk:k < 18446744073709551616):0≤bits .and .u64 a (k:Int)∧bits .and .u64 a (k:Int)≤k:=by
 have h2:(BitVec.ofInt 64 (k:Int)).toNat=k:=by
  rw [BitVec.ofInt_natCast,BitVec.toNat_ofNat];exact Nat.mod_eq_of_lt (by omega)
 have h3:(BitVec.ofInt 64 a &&& BitVec.ofInt 64 (k:Int)).toNat≤k:=by
  rw [BitVec.toNat_and,h2];exact Nat.and_le_right
 have e:bits .and .u64 a (k:Int)=IntKind.u64.wrap ((BitVec.ofInt 64 a &&& BitVec.ofInt 64 (k:Int)).toNat:Int):=rfl
 rw [e,IntKind.wrap_u64]
 omega
theorem i64_and_le (a:Nat) (ha:a≤2046):0≤bits .and .i64 (a:Int) 2047∧bits .and .i64 (a:Int) 2047≤2046:=by
 have h1:(BitVec.ofInt 64 (a:Int)).toNat=a:=by
  rw [BitVec.ofInt_natCast,BitVec.toNat_ofNat];exact Nat.mod_eq_of_lt (by omega)
 have h3:(BitVec.ofInt 64 (a:Int) &&& BitVec.ofInt 64 2047).toNat≤2046:=by
  rw [BitVec.toNat_and,h1];exact Nat.le_trans Nat.and_le_left ha
 have e:bits .and .i64 (a:Int) 2047=IntKind.i64.wrap ((BitVec.ofInt 64 (a:Int) &&& BitVec.ofInt 64 2047).toNat:Int):=rfl
 rw [e,IntWalk.i64_in _ (by omega)]
 omega
theorem or_lt56 {a b:Int} (ha:0≤a) (ha2:a < 72057594037927936) (hb:0≤b) (hb2:b < 72057594037927936):0≤bits .or .u64 a b∧bits .or .u64 a b≤72057594037927935:=by
 obtain ⟨a,rfl⟩:∃ n:Nat,a=n:=⟨a.toNat,by omega⟩
 obtain ⟨b,rfl⟩:∃ n:Nat,b=n:=⟨b.toNat,by omega⟩
 rw [bits_or_u64_nat a b (by omega) (by omega)]
 have:a ||| b < 2 ^ 56:=Nat.or_lt_two_pow (by omega) (by omega)
 omega
theorem or_lt55 {a b:Int} (ha:0≤a) (ha2:a < 36028797018963968) (hb:0≤b) (hb2:b < 36028797018963968):0≤bits .or .u64 a b∧bits .or .u64 a b≤36028797018963967:=by
 obtain ⟨a,rfl⟩:∃ n:Nat,a=n:=⟨a.toNat,by omega⟩
 obtain ⟨b,rfl⟩:∃ n:Nat,b=n:=⟨b.toNat,by omega⟩
 rw [bits_or_u64_nat a b (by omega) (by omega)]
 have:a ||| b < 2 ^ 55:=Nat.or_lt_two_pow (by omega) (by omega)
 omega
theorem or_sign {s v:Int} (hs:s=0∨s=9223372036854775808) (hv:0≤v) (hv2:v≤9007199254740992):0≤bits .or .u64 s v∧bits .or .u64 s v≤18446744073709551615∧bits .or .u64 s v % 9223372036854775808≤9007199254740992:=by
 obtain ⟨v,rfl⟩:∃ n:Nat,v=n:=⟨v.toNat,by omega⟩
 obtain ⟨s,rfl⟩:∃ n:Nat,s=n:=⟨s.toNat,by omega⟩
 rw [bits_or_u64_nat s v (by omega) (by omega)]
 have h1:s ||| v < 2 ^ 64:=Nat.or_lt_two_pow (by omega) (by omega)
 have h2:(s ||| v) % 2 ^ 63=(s % 2 ^ 63) ||| (v % 2 ^ 63):=Nat.or_mod_two_pow
 have h3:s % 2 ^ 63=0:=by omega
 have h4:v % 2 ^ 63=v:=by omega
 rw [h3,h4,Nat.zero_or] at h2
 omega
theorem or_nn (a E:Nat) (ha:a < 18446744073709551616) (ha2:a % 9223372036854775808 < 4503599627370496) (hE:E≤2046):nnF (bits .or .u64 (a:Int) ((E * 4503599627370496:Nat):Int)).toNat:=by
 rw [bits_or_u64_nat a _ ha (by omega),Int.toNat_natCast]
 apply nnF_of
 have h2:(a ||| E * 4503599627370496) % 2 ^ 63=(a % 2 ^ 63) ||| ((E * 4503599627370496) % 2 ^ 63):=Nat.or_mod_two_pow
 have h3:(E * 4503599627370496) % 2 ^ 63=2 ^ 52 * E:=by omega
 have h4:2 ^ 52 * E + a % 2 ^ 63=2 ^ 52 * E ||| a % 2 ^ 63:=Nat.two_pow_add_eq_or_of_lt (by omega) E
 rw [h3,Nat.or_comm (a % 2 ^ 63),←h4] at h2
 omega
theorem andNot_lt (m:Nat) (hm:m < 18446744073709551616) (h53:m % 9223372036854775808 < 9007199254740992):∃ q:Nat,bits .andNot .u64 (m:Int) 4503599627370496=q∧q < 18446744073709551616∧q % 9223372036854775808 < 4503599627370496:=by
 have h1:(BitVec.ofInt 64 (m:Int)).toNat=m:=by
  rw [BitVec.ofInt_natCast,BitVec.toNat_ofNat];exact Nat.mod_eq_of_lt (by omega)
 have h2:(~~~ (BitVec.ofInt 64 (4503599627370496:Int))).toNat=18442240474082181119:=by decide
 have h3:(BitVec.ofInt 64 (m:Int) &&& ~~~ BitVec.ofInt 64 4503599627370496).toNat=m &&& 18442240474082181119:=by
  rw [BitVec.toNat_and,h1,h2]
 have h4:m &&& 18442240474082181119≤m:=Nat.and_le_left
 have e:bits .andNot .u64 (m:Int) 4503599627370496=IntKind.u64.wrap ((BitVec.ofInt 64 (m:Int) &&& ~~~ BitVec.ofInt 64 4503599627370496).toNat:Int):=rfl
 refine ⟨m &&& 18442240474082181119,?_,by omega,?_⟩
 ·rw [e,h3,IntKind.wrap_u64];omega
 ·have h5:(m &&& 18442240474082181119) % 2 ^ 63=(m % 2 ^ 63) &&& (18442240474082181119 % 2 ^ 63):=Nat.and_mod_two_pow
  have h6:(m % 2 ^ 63) &&& (18442240474082181119 % 2 ^ 63)≤m % 2 ^ 63:=Nat.and_le_left
  have h7:((m % 2 ^ 63) &&& (18442240474082181119 % 2 ^ 63)) % 2 ^ 53=((m % 2 ^ 63) % 2 ^ 53) &&& ((18442240474082181119 % 2 ^ 63) % 2 ^ 53):=Nat.and_mod_two_pow
  have h8:((m % 2 ^ 63) % 2 ^ 53) &&& ((18442240474082181119 % 2 ^ 63) % 2 ^ 53)≤(18442240474082181119 % 2 ^ 63) % 2 ^ 53:=Nat.and_le_right
  have h9:(18442240474082181119 % 2 ^ 63) % 2 ^ 53=4503599627370495:=by decide
  omega
theorem and52_zero (m:Nat) (hm:m < 18446744073709551616) (h:m % 9223372036854775808=9007199254740992):(bits .and .u64 (m:Int) 4503599627370496 == 0)=true:=by
 have e:=bits_and_u64_nat m 4503599627370496 hm (by decide)
 have h3:m.testBit 52=false:=by
  rw [Nat.testBit_eq_decide_div_mod_eq];simp;omega
 have h2:m &&& 2 ^ 52=0:=by
  apply Nat.eq_of_testBit_eq
  intro i
  rw [Nat.testBit_and,Nat.testBit_two_pow,Nat.zero_testBit]
  by_cases hi:52=i
  ·subst hi;simp [h3]
  ·simp [hi]
 have h4:m &&& 4503599627370496=0:=h2
 rw [show ((4503599627370496:Nat):Int)=4503599627370496 from rfl] at e
 rw [e,h4];rfl
theorem pack_nn (m e:Int) (h0:0≤m) (h1:m≤18446744073709551615) (hm:m % 9223372036854775808≤9007199254740992) (h2:-1000≤e) (h3:e < 972) (hb:(bits BinOp.and IntKind.u64 m 4503599627370496 == 0)=false) :
  nnF (bits .or .u64 (bits .andNot .u64 m 4503599627370496) ((1075 + e) * 4503599627370496)).toNat:=by
 obtain ⟨m,rfl⟩:∃ n:Nat,m=n:=⟨m.toNat,by omega⟩
 obtain ⟨E,hE⟩:∃ E:Nat,1075 + e=E:=⟨(1075 + e).toNat,by omega⟩
 have h53:m % 9223372036854775808 < 9007199254740992:=by
  rcases Nat.lt_or_ge (m % 9223372036854775808) 9007199254740992 with h | h
  ·exact h
  ·rw [and52_zero m (by omega) (by omega)] at hb;exact absurd hb (by simp)
 obtain ⟨q,hq1,hq2,hq3⟩:=andNot_lt m (by omega) h53
 rw [hq1,hE]
 exact or_nn q E hq2 hq3 (by omega)
theorem dn_bd:∀ (m n:Nat) (dp ex:Int),n≠0→dp≤15→ex≤(dnL m n dp ex).2.2∧(dnL m n dp ex).2.2≤ex + potD n dp∧(dnL m n dp ex).1≠0∧dp - potD n dp≤(dnL m n dp ex).2.1:=by
 intro m
 induction m with
 | zero=>intro n dp ex h0 hd;simp only [dnL];exact ⟨by omega,by omega,h0,by omega⟩
 | succ m ih =>
  intro n dp ex h0 hd
  by_cases h:0 < dp
  ·rw [dnL_step h]
   obtain ⟨p1,p2,p3⟩:=potD_step h0 h (by omega)
   obtain ⟨q1,q2,q3,q4⟩:=ih (rsN (ptab dp) n) (rsP (ptab dp) n dp) (ex + ptab dp) (rsN_pos h0) (by omega)
   have hrg:=rsP_ge (k:=ptab dp) (dp:=dp) h0
   exact ⟨by omega,by omega,q3,by omega⟩
  ·rw [dnL_stop h];exact ⟨by simp,by simp;omega,h0,by simp;omega⟩
theorem up_bd:∀ (m n:Nat) (dp ex:Int),n≠0→(upL m n dp ex).2.2≤ex∧ex - potU n dp≤(upL m n dp ex).2.2:=by
 intro m
 induction m with
 | zero=>intro n dp ex h0;simp only [upL];omega
 | succ m ih =>
  intro n dp ex h0
  cases h:upC n dp with
  | true =>
   rw [upL_step h]
   obtain ⟨p1,p2,p3,p4⟩:=potU_step h0 h
   obtain ⟨q1,q2⟩:=ih (lsN (ptab (-dp)) n) (lsP (ptab (-dp)) n dp) (ex - ptab (-dp)) (lsN_pos h0)
   omega
  | false=>rw [upL_stop h];simp only;omega
theorem fbBits_nn (M:Nat) (E:Int) (neg:Bool) (h0:0≤E + 1023) (h1:E + 1023≤2046):nnF (fbBits M E neg).toNat:=by
 obtain ⟨a0,a1⟩:=u64_and_le (M:Int) 4503599627370495 (by decide)
 rw [show ((4503599627370495:Nat):Int)=4503599627370495 from rfl] at a0 a1
 obtain ⟨k,hk⟩:∃ k:Nat,E + 1023=k:=⟨(E + 1023).toNat,by omega⟩
 obtain ⟨b0,b1⟩:=i64_and_le k (by omega)
 unfold fbBits
 rw [hk]
 generalize bits .and .u64 (M:Int) 4503599627370495=A at a0 a1 ⊢
 generalize bits .and .i64 (k:Int) 2047=B at b0 b1 ⊢
 obtain ⟨A,rfl⟩:∃ n:Nat,A=n:=⟨A.toNat,by omega⟩
 obtain ⟨B,rfl⟩:∃ n:Nat,B=n:=⟨B.toNat,by omega⟩
 have e1:IntKind.u64.wrap (B:Int)=B:=by rw [IntKind.wrap_u64];omega
 have e2:IntKind.u64.wrap ((B:Int) * 4503599627370496)=((B * 4503599627370496:Nat):Int):=by rw [IntKind.wrap_u64];omega
 rw [e1,e2]
 have hor:=bits_or_u64_nat A (B * 4503599627370496) (by omega) (by omega)
 have h4:2 ^ 52 * B + A=2 ^ 52 * B ||| A:=Nat.two_pow_add_eq_or_of_lt (by omega) B
 have h5:A ||| B * 4503599627370496=4503599627370496 * B + A:=by rw [Nat.or_comm,Nat.mul_comm B];exact h4.symm
 rw [h5] at hor
 rw [hor]
 cases neg
 ·simp only [Bool.false_eq_true,if_false,Int.toNat_natCast]
  apply nnF_of;omega
 ·simp only [if_true]
  have hor2:=bits_or_u64_nat (4503599627370496 * B + A) 9223372036854775808 (by omega) (by decide)
  rw [show ((9223372036854775808:Nat):Int)=9223372036854775808 from rfl] at hor2
  rw [hor2,Int.toNat_natCast]
  apply nnF_of
  have h6:((4503599627370496 * B + A) ||| 9223372036854775808) % 2 ^ 63=((4503599627370496 * B + A) % 2 ^ 63) ||| (9223372036854775808 % 2 ^ 63):=Nat.or_mod_two_pow
  rw [show 9223372036854775808 % 2 ^ 63=0 from by decide,Nat.or_zero] at h6
  omega
theorem fbRes_nn {N:Nat} {dp:Int} (neg:Bool) (hN:N≠0) (h1:-60≤dp) (h2:dp≤15):nnF (fbRes N dp neg).toNat:=by
  have hpt0 : potD N dp ≤ 59 := by unfold potD; repeat' split
                                   all_goals omega
  have hpt1:dp - potD N dp≥-60:=by
    by_cases h:0 < dp
    · omega
    · have:potD N dp=0:=by unfold potD;rw [if_pos (by omega)]
      omega
  obtain ⟨q1,q2,q3,q4⟩:=dn_bd 59 N dp 0 hN h2
  unfold fbRes
  generalize dnL 59 N dp 0=D at *
  obtain ⟨n,d,ex⟩:=D
  simp only at q1 q2 q3 q4 ⊢
  have hpu:=potU_le n (dp:=d) (by omega)
  obtain ⟨r1,r2⟩:=up_bd 224 n d ex q3
  generalize upL 224 n d ex=U at *
  obtain ⟨n',d',ex'⟩:=U
  simp only at r1 r2 ⊢
  generalize rintN _ _ _=M
  have key:∀ (M:Nat) (E:Int),-300≤E→E≤100→nnF (fbFin M E neg).toNat:=fun M E e1 e2=>by
    unfold fbFin
    split
    · exact fbBits_nn M _ neg (by omega) (by omega)
    · exact fbBits_nn M _ neg (by omega) (by omega)
  unfold fbTail
  apply key
  · split<;>omega
  · split<;>omega
end Go.Proofs.YtfkecmlmnhbmoaaGreatDoor
namespace Go.Proofs.YtfkecmlmnhbmoaaGreatDoor
open Go Go.RowKit
theorem run_frombits (n:Int) (w:World):(callFunc 152 #[.int .u64 n]).run Tryz.prog w=.ok (.value (.float .f64 n.toNat)) w:=by
 rw [run_callFunc_extern Tryz.func152 (by kernel_rfl) (by kernel_rfl) (by kernel_rfl) (e:=Extern.MathFloatBits.float64frombits) (by kernel_rfl)]
 rfl
set_option maxRecDepth 100000 in
set_option maxHeartbeats 40000000 in
theorem pack_ex (m e:Int) (h0:0≤m) (h1:m≤18446744073709551615) (hm:m % 9223372036854775808≤9007199254740992) (h2:-1000≤e) (h3:e < 972):∃ x:Nat,nnF x∧∀ w:World,Calls Tryz.prog 202 #[.int .u64 m,.int .i64 e] w fun e w'=>e=.returned (.tuple #[.float .f64 x,.nilIface])∧w'=w:=by
 have hfb:=run_frombits
 rcases Bool.eq_false_or_eq_true (bits BinOp.and IntKind.u64 m 4503599627370496 == 0) with hb | hb
 all_goals
  have Hm:=Lib.hid hm
  clear hm
  apply Exists.intro
  refine ⟨?_,fun w=>?_⟩
  rotate_left
  go_enter Tryz.func202,Tryz.ntmps202
  go_wp2_with fail
  go_ret2
  exact ⟨rfl,rfl⟩
  first
   | exact pack_nn m e h0 h1 Hm.out h2 h3 hb
   | exact nnF_of (by have:=Hm.out;omega)
set_option maxRecDepth 100000 in
set_option maxHeartbeats 40000000 in
theorem b2_t (w:World):Calls Tryz.prog 151 #[.bool true] w fun e w'=>e=.returned (.int .u64 1)∧w'=w:=by
 go_enter Tryz.func151,Tryz.ntmps151
 go_wp2_with fail
 go_ret
 exact ⟨rfl,rfl⟩
set_option maxRecDepth 100000 in
set_option maxHeartbeats 40000000 in
theorem b2_f (w:World):Calls Tryz.prog 151 #[.bool false] w fun e w'=>e=.returned (.int .u64 0)∧w'=w:=by
 go_enter Tryz.func151,Tryz.ntmps151
 go_wp2_with fail
 go_ret
 exact ⟨rfl,rfl⟩
theorem or_range (a b:Int):0≤bits BinOp.or IntKind.u64 a b∧bits BinOp.or IntKind.u64 a b≤18446744073709551615:=bits_within .or .u64 a b
set_option maxRecDepth 100000 in
set_option maxHeartbeats 40000000 in
theorem us_ex (x hi lo:Nat) (hx:x < 18446744073709551616) (hh:hi < 18446744073709551616) (hl:lo < 18446744073709551616) :
  ∃ u:Int,(0≤u∧u≤72057594037927935)∧∀ (w:World) (pb:Nat),w.cell? ⟨pb,0,none⟩=some (.int .u64 hi)→w.cell? ⟨pb,1,none⟩=some (.int .u64 lo)→w.cell? ⟨pb,2,none⟩=some (.int .i64 8) →
  Calls Tryz.prog 162 #[.int .u64 x,.pointer (some ⟨pb,0,none⟩)] w fun e w'=>e=.returned (.int .u64 u)∧∃ n,w'=w.drewN n:=by
 have hb8:bits BinOp.and IntKind.i64 8 63=8:=by decide
 obtain ⟨H,hH⟩:∃ H,H=x * hi / 18446744073709551616:=⟨_,rfl⟩
 obtain ⟨M,hM⟩:∃ M,M=x * hi % 18446744073709551616:=⟨_,rfl⟩
 obtain ⟨M2,hM2⟩:∃ M2,M2=x * lo / 18446744073709551616:=⟨_,rfl⟩
 have hHb:H < 18446744073709551616:=by rw [hH];exact Nat.div_lt_of_lt_mul (Nat.mul_lt_mul'' hx hh)
 have hMb:M < 18446744073709551616:=by rw [hM];exact Nat.mod_lt _ (by decide)
 have hM2b:M2 < 18446744073709551616:=by rw [hM2];exact Nat.div_lt_of_lt_mul (Nat.mul_lt_mul'' hx hl)
 have HH:=Lib.hid hH;clear hH
 have HM:=Lib.hid hM;clear hM
 have HM2:=Lib.hid hM2;clear hM2
 rcases Bool.eq_false_or_eq_true ((H:Int) / 256 * 256 != (H:Int)) with hc1 | hc1
 ·apply Exists.intro
  refine ⟨?_,fun w pb c0 c1 c2=>?_⟩
  rotate_left
  go_enter Tryz.func162,Tryz.ntmps162
  go_wp2_with fail
  refine (Tryz.bits_Mul64 x hi hx hh _).mono ?_
  rintro e w1 ⟨rfl,hw⟩
  subst w1
  rw [←HH.out,←HM.out]
  go_wp2_with fail
  go_ret
  exact ⟨rfl,0,rfl⟩
  refine or_lt56 ?_ ?_ ?_ ?_<;>first | decide | omega | (rw [IntKind.wrap_u64];omega)
 ·by_cases hlt:M < M2
  ·rcases Bool.eq_false_or_eq_true (decide (1 < IntKind.u64.wrap ((M:Int) - (M2:Int)))) with hd | hd
   all_goals
    apply Exists.intro
    refine ⟨?_,fun w pb c0 c1 c2=>?_⟩
    rotate_left
    go_enter Tryz.func162,Tryz.ntmps162
    go_wp2_with fail
    refine (Tryz.bits_Mul64 x hi hx hh _).mono ?_
    rintro e w1 ⟨rfl,hw⟩
    subst w1
    rw [←HH.out,←HM.out]
    go_wp2_with fail
    refine (Tryz.bits_Mul64 x lo hx hl _).mono ?_
    rintro e w1 ⟨rfl,hw⟩
    subst w1
    rw [←HM2.out]
    go_wp2_with fail
    first
     | refine (b2_t _).mono ?_
     | refine (b2_f _).mono ?_
    rintro e w1 ⟨rfl,hw⟩
    subst w1
    go_wp2_with fail
    go_quiet ((go_at_call 151;with_reducible first | exact Calls.quiet_of_same (b2_t _) | exact Calls.quiet_of_same (b2_f _)))
    go_wp2_with fail
    go_ret
    exact ⟨rfl,_,rfl⟩
    refine or_lt56 ?_ ?_ ?_ ?_<;>first | decide | omega | (rw [IntKind.wrap_u64];omega)
  ·rcases Bool.eq_false_or_eq_true (decide (1 < (M:Int) - (M2:Int))) with hd | hd
   all_goals
    apply Exists.intro
    refine ⟨?_,fun w pb c0 c1 c2=>?_⟩
    rotate_left
    go_enter Tryz.func162,Tryz.ntmps162
    go_wp2_with fail
    refine (Tryz.bits_Mul64 x hi hx hh _).mono ?_
    rintro e w1 ⟨rfl,hw⟩
    subst w1
    rw [←HH.out,←HM.out]
    go_wp2_with fail
    refine (Tryz.bits_Mul64 x lo hx hl _).mono ?_
    rintro e w1 ⟨rfl,hw⟩
    subst w1
    rw [←HM2.out]
    go_wp2_with fail
    first
     | refine (b2_t _).mono ?_
     | refine (b2_f _).mono ?_
    rintro e w1 ⟨rfl,hw⟩
    subst w1
    go_wp2_with fail
    go_quiet ((go_at_call 151;with_reducible first | exact Calls.quiet_of_same (b2_t _) | exact Calls.quiet_of_same (b2_f _)))
    go_wp2_with fail
    go_ret
    exact ⟨rfl,_,rfl⟩
    refine or_lt56 ?_ ?_ ?_ ?_<;>first | decide | omega | (rw [IntKind.wrap_u64];omega)
structure FInit2 (W0:World):Prop extends FInit W0 where
 p10:∀ i:Nat,i < 696→∃ h l:Nat,h < 18446744073709551616∧l < 18446744073709551616∧W0.cell? ⟨21,i * 2,Option.none⟩=some (.int .u64 h)∧W0.cell? ⟨21,i * 2 + 1,Option.none⟩=some (.int .u64 l)
 p64:∃ fb fo fc,W0.cell? ⟨20,0,Option.none⟩=some (.slice (some ⟨fb,fo,Option.none⟩) 23 fc)∧∀ i:Nat,i < 23→∃ x:Nat,W0.cell? ⟨fb,fo + i,Option.none⟩=some (.float .f64 x)
set_option maxRecDepth 100000 in
set_option maxHeartbeats 40000000 in
theorem pre_any (w:World) (pb:Nat) (e p lp:Int) (i hi lo:Nat) (T:TypeId) (v0 v1 v2:Value) (hi9:p + 348=i) (hi696:i < 696) (hne:¬pb=21) (t0:w.cell? ⟨21,i * 2,none⟩=some (.int .u64 hi)) (t1:w.cell? ⟨21,i * 2 + 1,none⟩=some (.int .u64 lo))
  (hb:w.heap[pb]?=some (.cells #[v0,v1,v2] T (0,0))) (he1:-10000≤e) (he2:e≤10000) (hl1:-10000≤lp) (hl2:lp≤10000) :
  Calls Tryz.prog 160 #[.pointer (some ⟨pb,0,none⟩),.int .i64 e,.int .i64 p,.int .i64 lp] w fun e' w'=>e'=.returned (.tuple #[])∧w'.heap[pb]?=some (.cells #[.int .u64 hi,.int .u64 lo,.int .i64 (-(e + lp + 3))] T (0,0))∧w.grownBy w' (some pb):=by
 have c0:w.cell? ⟨pb,0,none⟩=some v0:=by simp [World.cell?,hb]
 have c1:w.cell? ⟨pb,1,none⟩=some v1:=by simp [World.cell?,hb]
 have c2:w.cell? ⟨pb,2,none⟩=some v2:=by simp [World.cell?,hb]
 have cf:∀ j,w.frozen? ⟨pb,j,none⟩=false:=by simp [World.frozen?,hb]
 have hp1:-348≤p:=by omega
 have hp2:p≤347:=by omega
 have hne2:¬21=pb:=fun x=>hne x.symm
 have HB:=Lib.hid hb;clear hb
 go_enter Tryz.func160,Tryz.ntmps160
 go_wp2_with fail
 go_end0
 refine ⟨rfl,?_,gr_set (gr_set (gr_set (World.grownBy.refl w (some pb)) _ _) _ _) _ _⟩
 simp [World.setCell,Array.getElem?_modify,HB.out]
end Go.Proofs.YtfkecmlmnhbmoaaGreatDoor
namespace Go.Proofs.YtfkecmlmnhbmoaaGreatDoor
open Go Go.RowKit
theorem take_set_at {A:By} {n:Nat} (h:n < A.length) (c:UInt8):(A.set n c).take (n + 1)=A.take n ++ [c]:=by
 rw [List.set_eq_take_append_cons_drop,if_pos h,List.take_append,List.length_take,Nat.min_eq_left (by omega)]
 simp
 rw [List.take_of_length_le (by simp;omega)]
theorem DecN.digit {w:World} {b N:Nat} {dp:Int} {neg tr:Bool} (h:DecN w b N dp neg tr) {c:UInt8} (h1:48≤c.toNat) (h2:c.toNat≤57) (h0:¬(c.toNat=48∧N=0)) (h8:numD N≤799) :
  DecN ((w.setCell ⟨b,numD N,none⟩ (.int .u8 (c.toNat:Int))).setCell ⟨b,800,none⟩ (.int .i64 ((numD N:Nat) + 1))) b (10 * N + (c.toNat - 48)) dp neg tr:=by
 obtain ⟨h3,A,hD,hds,hdv⟩:=h
 have hd:=numD_dig (N:=N) (d:=c.toNat - 48) (by omega) (fun x=>h0 ⟨by omega,x.2⟩)
 have hl:=hD.1
 have ht:=take_set_at (A:=A) (n:=numD N) (by omega) c
 refine ⟨by omega,A.set (numD N) c,?_,?_,?_⟩
 ·have:=(hD.setDig (i:=numD N) (by omega) c).setNd (numD N + 1)
  rw [hd]
  simpa using this
 ·rw [hd,ht];exact isDs_snoc hds h1 h2
 ·rw [hd,ht,dv_snoc,hdv]
theorem DecN.setDp {w:World} {b N:Nat} {dp:Int} {neg tr:Bool} (h:DecN w b N dp neg tr) (n:Int):DecN (w.setCell ⟨b,801,none⟩ (.int .i64 n)) b N n neg tr:=by
 obtain ⟨h3,A,hD,hds,hdv⟩:=h
 exact ⟨h3,A,hD.setDp n,hds,hdv⟩
theorem DecN.drewN {w:World} {b N:Nat} {dp:Int} {neg tr:Bool} (h:DecN w b N dp neg tr) (n:Nat):DecN (w.drewN n) b N dp neg tr:=h.heap rfl
theorem DecN.zero {w:World} {b:Nat} {A:By} {neg tr:Bool} {dp:Int} (h:DecAt w b A 0 dp neg tr):DecN w b 0 dp neg tr:=by
 refine ⟨by rw [numD_zero];omega,A,by rw [numD_zero];exact h,?_,?_⟩
 ·rw [numD_zero];intro x hx;cases hx
 ·rw [numD_zero];simp [dv]
end Go.Proofs.YtfkecmlmnhbmoaaGreatDoor
namespace Go.Proofs.YtfkecmlmnhbmoaaGreatDoor
def bs (l:By):ByteArray:=⟨l.toArray⟩
theorem bs_size (l:By):(bs l).size=l.length:=by simp [bs,ByteArray.size]
theorem bs_list (l:By):(bs l).data.toList=l:=by simp [bs]
theorem bs_of (s:ByteArray):s=bs s.data.toList:=by simp [bs]
theorem bs_extract (l:By) (i j:Nat):(bs l).extract i j=bs ((l.take j).drop i):=by
 apply ByteArray.ext
 show _=_
 simp only [bs,ByteArray.data_extract]
 apply Array.ext'
 simp [List.extract_eq_take_drop,List.drop_take]
end Go.Proofs.YtfkecmlmnhbmoaaGreatDoor
namespace Go.Proofs.YtfkecmlmnhbmoaaGreatDoor
end Go.Proofs.YtfkecmlmnhbmoaaGreatDoor
namespace Go.Proofs.YtfkecmlmnhbmoaaGreatDoor
open Go Go.RowKit
end Go.Proofs.YtfkecmlmnhbmoaaGreatDoor
namespace Go.Proofs.YtfkecmlmnhbmoaaGreatDoor
open Go Go.RowKit
end Go.Proofs.YtfkecmlmnhbmoaaGreatDoor
namespace Go.Proofs.YtfkecmlmnhbmoaaGreatDoor
open Go Go.RowKit
end Go.Proofs.YtfkecmlmnhbmoaaGreatDoor
namespace Go.Proofs.YtfkecmlmnhbmoaaGreatDoor
end Go.Proofs.YtfkecmlmnhbmoaaGreatDoor
namespace Go.Proofs.YtfkecmlmnhbmoaaGreatDoor
end Go.Proofs.YtfkecmlmnhbmoaaGreatDoor
namespace Go.Proofs.YtfkecmlmnhbmoaaGreatDoor
open Go Go.RowKit
def dgs (N:Nat):By:=(List.range (numD N)).map fun i=>UInt8.ofNat (48 + pdN N (i + 1) % 10)
theorem dgs_len (N:Nat):(dgs N).length=numD N:=by simp [dgs]
theorem dgs_ds (N:Nat):isDs (dgs N):=by
 intro c hc
 obtain ⟨i,_,rfl⟩:=List.mem_map.1 hc
 rw [UInt8.toNat_ofNat'];omega
theorem dgs_get {N i:Nat} (h:i < numD N):(dgs N)[i]?=some (UInt8.ofNat (48 + pdN N (i + 1) % 10)):=by
 simp [dgs,h]
theorem dgs_of {A:By} {N:Nat} (hl:numD N≤A.length) (hd:isDs (A.take (numD N))) (hv:dv (A.take (numD N))=N):A.take (numD N)=dgs N:=by
 apply List.ext_getElem?
 intro i
 by_cases hi:i < numD N
 ·obtain ⟨h1,h2,h3⟩:=pdN_digit hl hd hv hi
  rw [dgs_get hi,List.getElem?_take,if_pos hi,List.getElem?_eq_getElem (by omega)]
  have e:A.getD i 0=A[i]:=by rw [List.getD_eq_getElem?_getD,List.getElem?_eq_getElem (by omega)];rfl
  rw [e] at h1 h2 h3
  congr 1
  apply UInt8.toNat_inj.1
  rw [UInt8.toNat_ofNat']
  omega
 ·rw [List.getElem?_eq_none (by simp;omega),List.getElem?_eq_none (by rw [dgs_len];omega)]
theorem dec_digits {w:World} {b N:Nat} {dp:Int} {neg tr:Bool} (h:DecN w b N dp neg tr):∃ A,DecAt w b A (numD N) dp neg tr∧A.take (numD N)=dgs N:=by
 obtain ⟨h8,A,hA,hd,hv⟩:=h
 exact ⟨A,hA,dgs_of (by have:=hA.1;omega) hd hv⟩
def rdN (N r:Nat):Nat:=if r < numD N then strip (pdN N r + (if ruB N r false then 1 else 0)) else N
def rdP (N r:Nat) (dp:Int):Int:=if r < numD N then dp + numD (pdN N r + (if ruB N r false then 1 else 0)) - numD (pdN N r) else dp
theorem p510_lt (k:Nat) (h1:13≤k) (h2:k≤33):10 ^ (k - 12) < 5 ^ k:=by
 have key:∀ j:Nat,j < 21→10 ^ (j + 1) < 5 ^ (j + 13):=by decide
 have:=key (k - 13) (by omega)
 rwa [show k - 13 + 1=k - 12 by omega,show k - 13 + 13=k by omega] at this
theorem slow_dp {M k:Nat} (hM:M≠0) (hk1:6≤k) (hk2:k≤33) (hlo:2 ^ k * 10 ^ 5≤M) (hhi:M < 10 ^ 14 * 2 ^ k) :
  ∃ r:Nat,rsP k (strip M) (numD M) + 12=r∧r≤26∧1≤r∧rdP (rsN k (strip M)) r (rsP k (strip M) (numD M))≤14∧-100≤rdP (rsN k (strip M)) r (rsP k (strip M) (numD M))∧numD (rsN k (strip M))≤60∧rsN k (strip M)≠0∧numD (strip M)≤60∧strip M≠0:=by
 obtain ⟨z,hz1,hz2,hz3,_⟩:=strip_spec M hM
 generalize strip M=N at *
 have h5:0 < 5 ^ k:=Nat.pow_pos (by decide)
 have hN5:N * 5 ^ k≠0:=Nat.mul_ne_zero hz2 (by omega)
 obtain ⟨y,hy1,hy2,hy3,_⟩:=strip_spec (N * 5 ^ k) hN5
 have hrs:rsN k N=strip (N * 5 ^ k):=rfl
 rw [hrs]
 generalize strip (N * 5 ^ k)=N2 at *
 have e25:(10:Nat) ^ k=2 ^ k * 5 ^ k:=by rw [←Nat.mul_pow]
 have hMk:M * 5 ^ k=N2 * 10 ^ (y + z):=by rw [hz1,Nat.mul_right_comm,hy1,Nat.pow_add,Nat.mul_assoc]
 have hnd:numD (M * 5 ^ k)=numD N2 + (y + z):=by rw [hMk];exact (strip_mul10 _ _ hy2).2
 have hup:M * 5 ^ k + 5 ^ k≤10 ^ (14 + k):=by
  have:(M + 1) * 5 ^ k≤(10 ^ 14 * 2 ^ k) * 5 ^ k:=Nat.mul_le_mul_right _ hhi
  rw [Nat.mul_assoc,←e25,←Nat.pow_add] at this
  rw [Nat.add_mul,Nat.one_mul] at this
  exact this
 have hdn:10 ^ (k + 5)≤M * 5 ^ k:=by
  have:(2 ^ k * 10 ^ 5) * 5 ^ k≤M * 5 ^ k:=Nat.mul_le_mul_right _ hlo
  rw [Nat.mul_right_comm,←e25,←Nat.pow_add] at this
  exact this
 have hn1:numD (M * 5 ^ k)≤14 + k:=numD_le_of (by omega)
 have hn2:k + 6≤numD (M * 5 ^ k):=numD_ge_of hdn
 have hP:rsP k N (numD M)=((numD (M * 5 ^ k):Nat):Int) - k:=by
  unfold rsP
  rw [hz3,hy3,hnd];omega
 have hN60:numD N2≤60:=by omega
 have hN1:numD N≤60:=by
  have:numD N≤numD (N * 5 ^ k):=numD_mono (Nat.le_mul_of_pos_right _ h5)
  omega
 refine ⟨numD (M * 5 ^ k) - k + 12,by rw [hP];omega,by omega,by omega,?_,?_,hN60,hy2,hN1,hz2⟩
 rotate_left
 ·rw [hP]
  unfold rdP
  obtain ⟨r,hr⟩:∃ r,r=numD (M * 5 ^ k) - k + 12:=⟨_,rfl⟩
  rw [←hr]
  by_cases hlt:r < numD N2
  ·rw [if_pos hlt]
   have hb:=pdN_small (N:=N2) (r:=r)
   have:=numD_le_of hb
   omega
  ·rw [if_neg hlt];omega
 rw [hP]
 unfold rdP
 obtain ⟨r,hr⟩:∃ r,r=numD (M * 5 ^ k) - k + 12:=⟨_,rfl⟩
 rw [←hr]
 by_cases hlt:r < numD N2
 ·rw [if_pos hlt]
  have hpd:=pdN_small (N:=N2) (r:=r)
  obtain ⟨c,hc⟩:∃ c,c=(if ruB N2 r false then 1 else 0):=⟨_,rfl⟩
  rw [←hc]
  have hc1:c≤1:=by rw [hc];split<;>omega
  have hle:10 ^ (r - 1)≤pdN N2 r:=by
   unfold pdN
   rw [if_pos (by omega)]
   rw [Nat.le_div_iff_mul_le (Nat.pow_pos (by decide)),←Nat.pow_add]
   have:=numD_le N2 hy2
   rwa [show r - 1 + (numD N2 - r)=numD N2 - 1 by omega]
  have hnp:numD (pdN N2 r)=r:=by
   have:=numD_eq (m:=r - 1) hle (by rwa [show r - 1 + 1=r by omega])
   omega
  rw [hnp]
  by_cases hfull:pdN N2 r + c < 10 ^ r
  ·have:numD (pdN N2 r + c)≤r:=numD_le_of hfull
   omega
  ·have h9:pdN N2 r + 1=10 ^ r:=by omega
   have hnr:numD (pdN N2 r + c)≤r + 1:=numD_le_of (by rw [Nat.pow_succ];have:=Nat.pow_pos (n:=r) (show 0 < 10 by decide);omega)
   by_cases h14:r≤25
   ·omega
   ·exfalso
    have hr26:r=26:=by omega
    have hk13:13≤k:=by omega
    have hge:(10 ^ r - 1) * 10 ^ (numD N2 - r)≤N2:=by
     have:pdN N2 r * 10 ^ (numD N2 - r)≤N2:=by
      unfold pdN
      rw [if_pos (by omega)]
      exact Nat.div_mul_le_self _ _
     rwa [show pdN N2 r=10 ^ r - 1 by omega] at this
    have hge2:(10 ^ r - 1) * 10 ^ (numD N2 - r) * 10 ^ (y + z)≤M * 5 ^ k:=by
     rw [hMk];exact Nat.mul_le_mul_right _ hge
    rw [Nat.mul_assoc,←Nat.pow_add,show numD N2 - r + (y + z)=k - 12 by omega,Nat.sub_mul,←Nat.pow_add,Nat.one_mul,show r + (k - 12)=14 + k by omega] at hge2
    have h6:=p510_lt k hk13 hk2
    have h7:10 ^ (k - 12)≤10 ^ (14 + k):=Nat.pow_le_pow_right (by decide) (by omega)
    omega
 ·rw [if_neg hlt];omega
end Go.Proofs.YtfkecmlmnhbmoaaGreatDoor
namespace Go.Proofs.YtfkecmlmnhbmoaaGreatDoor
open Go Go.RowKit
theorem pdN_lead {N r:Nat} (hN:N≠0) (hr1:1≤r) (hr:r≤numD N):10 ^ (r - 1)≤pdN N r∧numD (pdN N r)=r:=by
 have hpd:=pdN_small (N:=N) (r:=r)
 have hle:10 ^ (r - 1)≤pdN N r:=by
  unfold pdN
  rw [if_pos (by omega)]
  rw [Nat.le_div_iff_mul_le (Nat.pow_pos (by decide)),←Nat.pow_add]
  have:=numD_le N hN
  rwa [show r - 1 + (numD N - r)=numD N - 1 by omega]
 refine ⟨hle,?_⟩
 have:=numD_eq (m:=r - 1) hle (by rwa [show r - 1 + 1=r by omega])
 omega
def Nines (N r i:Nat):Prop:=i≤r∧pdN N r + 1=(pdN N i + 1) * 10 ^ (r - i)
theorem Nines.start (N r:Nat):Nines N r r:=⟨Nat.le_refl _,by simp⟩
theorem Nines.step {A:By} {N r i:Nat} (h:Nines N r (i + 1)) (hl:numD N≤A.length) (hd:isDs (A.take (numD N))) (hv:dv (A.take (numD N))=N) (hr:r≤numD N) (h9:¬(A.getD i 0).toNat < 57):Nines N r i:=by
 obtain ⟨h1,h2⟩:=h
 obtain ⟨e1,e2,e3⟩:=pdN_digit hl hd hv (r:=i) (by omega)
 refine ⟨by omega,?_⟩
 rw [h2,e1,show r - i=(r - (i + 1)) + 1 by omega,Nat.pow_succ]
 have:10 * pdN N i + ((A.getD i 0).toNat - 48) + 1=(pdN N i + 1) * 10:=by omega
 rw [this,Nat.mul_assoc,Nat.mul_comm 10]
theorem Nines.up {w':World} {b:Nat} {A:By} {N r i:Nat} {dp:Int} {neg tr:Bool} (h:Nines N r (i + 1)) (hN:N≠0) (hl:numD N≤800) (hA:A.length=800) (hd:isDs (A.take (numD N))) (hv:dv (A.take (numD N))=N) (hr:r≤numD N) (h9:(A.getD i 0).toNat < 57) {c:UInt8} (hc:c.toNat=(A.getD i 0).toNat + 1)
  (hD:DecAt w' b (A.set i c) (i + 1) dp neg tr) (hlt:r < numD N) (hru:ruB N r false=true):DecN w' b (rdN N r) (rdP N r dp) neg tr:=by
 obtain ⟨h1,h2⟩:=h
 obtain ⟨e1,e2,e3⟩:=pdN_digit (by omega) hd hv (r:=i) (by omega)
 have hle:=(pdN_lead hN (r:=i + 1) (by omega) (by omega)).1
 have hpr:=(pdN_lead hN (r:=r) (by omega) hr).2
 have hsm:=pdN_small (N:=N) (r:=i)
 obtain ⟨X,hX⟩:∃ X,X=pdN N (i + 1) + 1:=⟨_,rfl⟩
 rw [←hX] at h2
 have hX10:X % 10≠0:=by omega
 have hX0:X≠0:=by omega
 have hXlt:X < 10 ^ (i + 1):=by rw [Nat.pow_succ];omega
 have hXn:numD X=i + 1:=numD_eq (by rw [Nat.add_sub_cancel] at hle;omega) hXlt
 obtain ⟨s1,s2⟩:=strip_mul10 (r - (i + 1)) X hX0
 have hrd:rdN N r=X:=by unfold rdN;rw [if_pos hlt,hru,if_pos rfl,h2,s1,strip_stop hX10]
 have hrp:rdP N r dp=dp:=by unfold rdP;rw [if_pos hlt,hru,if_pos rfl,h2,s2,hXn,hpr];omega
 rw [hrd,hrp]
 have htk:(A.set i c).take (i + 1)=A.take i ++ [c]:=by
  rw [List.take_add_one,List.take_set_of_le (Nat.le_refl i),List.getElem?_set_self (by omega)];rfl
 refine ⟨by rw [hXn];omega,_,by rw [hXn];exact hD,?_,?_⟩
 ·rw [hXn,htk]
  refine isDs_snoc ?_ (by omega) (by omega)
  intro x hx
  refine hd x ?_
  have:A.take i=(A.take (numD N)).take i:=by rw [List.take_take,Nat.min_eq_left (by omega)]
  rw [this] at hx
  exact List.mem_of_mem_take hx
 ·rw [hXn,htk,dv_snoc]
  have hpi:=pd_eq (A:=A) (N:=N) (r:=i) (by omega) hd hv
  unfold pd at hpi
  rw [if_pos (by omega)] at hpi
  rw [hpi];omega
theorem Nines.all {w':World} {b:Nat} {A:By} {N r:Nat} {dp:Int} {neg tr:Bool} (h:Nines N r 0) (hN:N≠0) (hr1:1≤r) (hA:A.length=800) (hD:DecAt w' b (A.set 0 49) 1 (dp + 1) neg tr) (hlt:r < numD N) (hru:ruB N r false=true):DecN w' b (rdN N r) (rdP N r dp) neg tr:=by
 obtain ⟨h1,h2⟩:=h
 rw [pdN_zero] at h2
 have hpr:=(pdN_lead hN (r:=r) (by omega) (by omega)).2
 obtain ⟨s1,s2⟩:=strip_mul10 (r - 0) (0 + 1) (by decide)
 have h11:strip (0 + 1)=1:=strip_stop (by decide)
 have hn1:numD (0 + 1)=1:=numD_eq (m:=0) (by decide) (by decide)
 have hrd:rdN N r=1:=by unfold rdN;rw [if_pos hlt,hru,if_pos rfl,h2,s1,h11]
 have hrp:rdP N r dp=dp + 1:=by unfold rdP;rw [if_pos hlt,hru,if_pos rfl,h2,s2,hn1,hpr];omega
 rw [hrd,hrp]
 have h1n:numD 1=1:=hn1
 have htk:(A.set 0 49).take 1=[49]:=by
  cases A with
  | nil=>simp at hA
  | cons x xs=>rfl
 refine ⟨by rw [h1n];omega,_,by rw [h1n];exact hD,?_,?_⟩
 ·rw [h1n,htk];intro x hx;simp at hx;subst hx;decide
 ·rw [h1n,htk];rfl
theorem cut_dec {w':World} {b:Nat} {A:By} {N r:Nat} {dp:Int} {neg tr:Bool} (hN:N≠0) (hr1:1≤r) (hA:A.length=800) (hl:numD N≤800) (hd:isDs (A.take (numD N))) (hv:dv (A.take (numD N))=N) (hlt:r < numD N) (hru:ruB N r false=false)
  (hD:DecAt w' b A (trimN A r) dp neg tr):DecN w' b (rdN N r) (rdP N r dp) neg tr:=by
 obtain ⟨hle,hpr⟩:=pdN_lead hN (r:=r) hr1 (by omega)
 have hpi:=pd_eq (A:=A) (N:=N) (r:=r) (by omega) hd hv
 unfold pd at hpi
 rw [if_pos (by omega)] at hpi
 have hp0:pdN N r≠0:=by have:=Nat.pow_pos (n:=r - 1) (show 0 < 10 by decide);omega
 have hds:isDs (A.take r):=by
  intro x hx
  refine hd x ?_
  have:A.take r=(A.take (numD N)).take r:=by rw [List.take_take,Nat.min_eq_left (by omega)]
  rw [this] at hx
  exact List.mem_of_mem_take hx
 obtain ⟨t1,t2⟩:=trimN_dv r A (by omega) hds (by rw [hpi];exact hp0) (by rw [hpi];exact hpr)
 rw [hpi] at t1 t2
 have hrd:rdN N r=strip (pdN N r):=by unfold rdN;rw [if_pos hlt,hru];rfl
 have hrp:rdP N r dp=dp:=by unfold rdP;rw [if_pos hlt,hru];simp
 rw [hrd,hrp]
 have:=trimN_le A r
 refine ⟨by rw [←t1];omega,A,by rw [←t1];exact hD,?_,by rw [←t1];exact t2⟩
 rw [←t1]
 intro x hx
 refine hds x ?_
 have e:A.take (trimN A r)=(A.take r).take (trimN A r):=by rw [List.take_take,Nat.min_eq_left (by omega)]
 rw [e] at hx
 exact List.mem_of_mem_take hx
end Go.Proofs.YtfkecmlmnhbmoaaGreatDoor
