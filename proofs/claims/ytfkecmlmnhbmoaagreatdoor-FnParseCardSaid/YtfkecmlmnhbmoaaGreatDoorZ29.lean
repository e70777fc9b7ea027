/- FnParse: the texts N1 G10 G11 G12 of the workbench, laid together. -/
import Derived.Test.YtfkecmlmnhbmoaaGreatDoorProg
import Derived.WalkKit
import Derived.WalkLawsBesides
import Derived.WalkSpells
import Derived.BigQuiet
import Derived.BigRegion
import Derived.Deep.QuietTactic
import Derived.Deep.RegionHeld3
import Derived.Deep.LoopGhost
import Derived.StillTailTactics
import Derived.Lib.Hide
import Derived.Laws.EntriesVeiled
import Derived.Laws.Bits64b
import Derived.Test.YtfkecmlmnhbmoaaGreatDoorZ19
import Derived.Test.YtfkecmlmnhbmoaaGreatDoorZ27
import Derived.Test.YtfkecmlmnhbmoaaGreatDoorZ28
set_option linter.unusedVariables false
set_option linter.unusedSimpArgs false
namespace Go.Proofs.YtfkecmlmnhbmoaaGreatDoor
open Go Go.RowKit
def nnF (x:Nat):Prop:=FloatKind.f64.format.order x x=some Ordering.eq
theorem order_num (s:Bool) (m:Nat) (j:Int):(Ieee.Datum.number s m j).order (.number s m j)=some Ordering.eq:=by
  simp [Ieee.Datum.order]
theorem order_inf (s:Bool):(Ieee.Datum.infinity s).order (.infinity s)=some Ordering.eq:=by
  cases s<;>decide
theorem nnF_num {x:Nat} (h:∃ s m j,FloatKind.f64.format.read x=.number s m j):nnF x:=by
  obtain ⟨s,m,j,e⟩:=h
  unfold nnF Ieee.Format.order
  rw [e]
  exact order_num s m j
theorem nnF_of {x:Nat} (h:x % 9223372036854775808≤9218868437227405312):nnF x:=by
  unfold nnF
  have e1:FloatKind.f64.format=Ieee.double:=rfl
  rw [e1]
  unfold Ieee.Format.order
  have key:(∃ s m j,Ieee.double.read x=.number s m j)∨∃ s,Ieee.double.read x=.infinity s:=by
    have e2:Ieee.double.signWeight=9223372036854775808:=by decide
    have e3:Ieee.double.infRung=9218868437227405312:=by decide
    unfold Ieee.Format.read
    simp only [e2,e3]
    split
    · exact .inl ⟨_,_,_,rfl⟩
    · split
      · exact .inl ⟨_,_,_,rfl⟩
      · split
        · exact .inr ⟨_,rfl⟩
        · exfalso;omega
  rcases key with ⟨s,m,j,e⟩ | ⟨s,e⟩
  · rw [e];exact order_num s m j
  · rw [e];exact order_inf s
theorem nnF_word {k:Nat} (neg:Bool) (h:k≤9218868437227405312):nnF (Ieee.double.word neg k):=by
  have e2:Ieee.double.signWeight=9223372036854775808:=by decide
  apply nnF_of
  unfold Ieee.Format.word
  rw [e2]
  cases neg
  · simp only [Bool.false_eq_true,if_false];omega
  · simp only [if_true];omega
theorem nnF_nearest (neg:Bool) (m:Nat) (p:Int):nnF (Ieee.double.nearest neg m p):=by
  have e3:Ieee.double.infRung=9218868437227405312:=by decide
  unfold Ieee.Format.nearest
  by_cases h0:m=0
  · rw [if_pos h0];exact nnF_word neg (by omega)
  · rw [if_neg h0];exact nnF_word neg (by rw [←e3];exact Nat.min_le_right _ _)
theorem u64_and_le (a:Int) (k:Nat) (hk:k < 18446744073709551616):0≤bits .and .u64 a (k:Int)∧bits .and .u64 a (k:Int)≤k:=by
  have h2:(BitVec.ofInt 64 (k:Int)).toNat=k:=by
    rw [BitVec.ofInt_natCast,BitVec.toNat_ofNat];exact Nat.mod_eq_of_lt (by omega)
  have h3:(BitVec.ofInt 64 a &&& BitVec.ofInt 64 (k:Int)).toNat≤k:=by
    rw [BitVec.toNat_and,h2];exact Nat.and_le_right
  have e:bits .and .u64 a (k:Int)=IntKind.u64.wrap ((BitVec.ofInt 64 a &&& BitVec.ofInt 64 (k:Int)).toNat:Int):=rfl
  rw [e,IntKind.wrap_u64]
  omega
theorem i64_and_le (a:Nat) (ha:a≤2046):0≤bits .and .i64 (a:Int) 2047∧bits .and .i64 (a:Int) 2047≤2046:=by
  have h1:(BitVec.ofInt 64 (a:Int)).toNat=a:=by
    rw [BitVec.ofInt_natCast,BitVec.toNat_ofNat];exact Nat.mod_eq_of_lt (by omega)
  have h3:(BitVec.ofInt 64 (a:Int) &&& BitVec.ofInt 64 2047).toNat≤2046:=by
    rw [BitVec.toNat_and,h1];exact Nat.le_trans Nat.and_le_left ha
  have e:bits .and .i64 (a:Int) 2047=IntKind.i64.wrap ((BitVec.ofInt 64 (a:Int) &&& BitVec.ofInt 64 2047).toNat:Int):=rfl
  rw [e,IntWalk.i64_in _ (by omega)]
  omega
theorem or_lt56 {a b:Int} (ha:0≤a) (ha2:a < 72057594037927936) (hb:0≤b) (hb2:b < 72057594037927936):0≤bits .or .u64 a b∧bits .or .u64 a b≤72057594037927935:=by
  obtain ⟨a,rfl⟩:∃ n:Nat,a=n:=⟨a.toNat,by omega⟩
  obtain ⟨b,rfl⟩:∃ n:Nat,b=n:=⟨b.toNat,by omega⟩
  rw [bits_or_u64_nat a b (by omega) (by omega)]
  have:a ||| b < 2 ^ 56:=Nat.or_lt_two_pow (by omega) (by omega)
  omega
theorem or_lt55 {a b:Int} (ha:0≤a) (ha2:a < 36028797018963968) (hb:0≤b) (hb2:b < 36028797018963968):0≤bits .or .u64 a b∧bits .or .u64 a b≤36028797018963967:=by
  obtain ⟨a,rfl⟩:∃ n:Nat,a=n:=⟨a.toNat,by omega⟩
  obtain ⟨b,rfl⟩:∃ n:Nat,b=n:=⟨b.toNat,by omega⟩
  rw [bits_or_u64_nat a b (by omega) (by omega)]
  have:a ||| b < 2 ^ 55:=Nat.or_lt_two_pow (by omega) (by omega)
  omega
theorem or_sign {s v:Int} (hs:s=0∨s=9223372036854775808) (hv:0≤v) (hv2:v≤9007199254740992):0≤bits .or .u64 s v∧bits .or .u64 s v≤18446744073709551615∧bits .or .u64 s v % 9223372036854775808≤9007199254740992:=by
  obtain ⟨v,rfl⟩:∃ n:Nat,v=n:=⟨v.toNat,by omega⟩
  obtain ⟨s,rfl⟩:∃ n:Nat,s=n:=⟨s.toNat,by omega⟩
  rw [bits_or_u64_nat s v (by omega) (by omega)]
  have h1:s ||| v < 2 ^ 64:=Nat.or_lt_two_pow (by omega) (by omega)
  have h2:(s ||| v) % 2 ^ 63=(s % 2 ^ 63) ||| (v % 2 ^ 63):=Nat.or_mod_two_pow
  have h3:s % 2 ^ 63=0:=by omega
  have h4:v % 2 ^ 63=v:=by omega
  rw [h3,h4,Nat.zero_or] at h2
  omega
theorem or_nn (a E:Nat) (ha:a < 18446744073709551616) (ha2:a % 9223372036854775808 < 4503599627370496) (hE:E≤2046):nnF (bits .or .u64 (a:Int) ((E * 4503599627370496:Nat):Int)).toNat:=by
  rw [bits_or_u64_nat a _ ha (by omega),Int.toNat_natCast]
  apply nnF_of
  have h2:(a ||| E * 4503599627370496) % 2 ^ 63=(a % 2 ^ 63) ||| ((E * 4503599627370496) % 2 ^ 63):=Nat.or_mod_two_pow
  have h3:(E * 4503599627370496) % 2 ^ 63=2 ^ 52 * E:=by omega
  have h4:2 ^ 52 * E + a % 2 ^ 63=2 ^ 52 * E ||| a % 2 ^ 63:=Nat.two_pow_add_eq_or_of_lt (by omega) E
  rw [h3,Nat.or_comm (a % 2 ^ 63),←h4] at h2
  omega
theorem andNot_lt (m:Nat) (hm:m < 18446744073709551616) (h53:m % 9223372036854775808 < 9007199254740992):∃ q:Nat,bits .andNot .u64 (m:Int) 4503599627370496=q∧q < 18446744073709551616∧q % 9223372036854775808 < 4503599627370496:=by
  have h1:(BitVec.ofInt 64 (m:Int)).toNat=m:=by
    rw [BitVec.ofInt_natCast,BitVec.toNat_ofNat];exact Nat.mod_eq_of_lt (by omega)
  have h2:(~~~ (BitVec.ofInt 64 (4503599627370496:Int))).toNat=18442240474082181119:=by decide
  have h3:(BitVec.ofInt 64 (m:Int) &&& ~~~ BitVec.ofInt 64 4503599627370496).toNat=m &&& 18442240474082181119:=by
    rw [BitVec.toNat_and,h1,h2]
  have h4:m &&& 18442240474082181119≤m:=Nat.and_le_left
  have e:bits .andNot .u64 (m:Int) 4503599627370496=IntKind.u64.wrap ((BitVec.ofInt 64 (m:Int) &&& ~~~ BitVec.ofInt 64 4503599627370496).toNat:Int):=rfl
  refine ⟨m &&& 18442240474082181119,?_,by omega,?_⟩
  · rw [e,h3,IntKind.wrap_u64];omega
  · have h5:(m &&& 18442240474082181119) % 2 ^ 63=(m % 2 ^ 63) &&& (18442240474082181119 % 2 ^ 63):=Nat.and_mod_two_pow
    have h6:(m % 2 ^ 63) &&& (18442240474082181119 % 2 ^ 63)≤m % 2 ^ 63:=Nat.and_le_left
    have h7:((m % 2 ^ 63) &&& (18442240474082181119 % 2 ^ 63)) % 2 ^ 53=((m % 2 ^ 63) % 2 ^ 53) &&& ((18442240474082181119 % 2 ^ 63) % 2 ^ 53):=Nat.and_mod_two_pow
    have h8:((m % 2 ^ 63) % 2 ^ 53) &&& ((18442240474082181119 % 2 ^ 63) % 2 ^ 53)≤(18442240474082181119 % 2 ^ 63) % 2 ^ 53:=Nat.and_le_right
    have h9:(18442240474082181119 % 2 ^ 63) % 2 ^ 53=4503599627370495:=by decide
    omega
theorem and52_zero (m:Nat) (hm:m < 18446744073709551616) (h:m % 9223372036854775808=9007199254740992):(bits .and .u64 (m:Int) 4503599627370496 == 0)=true:=by
  have e:=bits_and_u64_nat m 4503599627370496 hm (by decide)
  have h3:m.testBit 52=false:=by
    rw [Nat.testBit_eq_decide_div_mod_eq];simp;omega
  have h2:m &&& 2 ^ 52=0:=by
    apply Nat.eq_of_testBit_eq
    intro i
    rw [Nat.testBit_and,Nat.testBit_two_pow,Nat.zero_testBit]
    by_cases hi:52=i
    · subst hi;simp [h3]
    · simp [hi]
  have h4:m &&& 4503599627370496=0:=h2
  rw [show ((4503599627370496:Nat):Int)=4503599627370496 from rfl] at e
  rw [e,h4];rfl
theorem pack_nn (m e:Int) (h0:0≤m) (h1:m≤18446744073709551615) (hm:m % 9223372036854775808≤9007199254740992) (h2:-1000≤e) (h3:e < 972) (hb:(bits BinOp.and IntKind.u64 m 4503599627370496 == 0)=false) :
    nnF (bits .or .u64 (bits .andNot .u64 m 4503599627370496) ((1075 + e) * 4503599627370496)).toNat:=by
  obtain ⟨m,rfl⟩:∃ n:Nat,m=n:=⟨m.toNat,by omega⟩
  obtain ⟨E,hE⟩:∃ E:Nat,1075 + e=E:=⟨(1075 + e).toNat,by omega⟩
  have h53:m % 9223372036854775808 < 9007199254740992:=by
    rcases Nat.lt_or_ge (m % 9223372036854775808) 9007199254740992 with h | h
    · exact h
    · rw [and52_zero m (by omega) (by omega)] at hb;exact absurd hb (by simp)
  obtain ⟨q,hq1,hq2,hq3⟩:=andNot_lt m (by omega) h53
  rw [hq1,hE]
  exact or_nn q E hq2 hq3 (by omega)
theorem dn_bd:∀ (m n:Nat) (dp ex:Int),n≠0→dp≤15→ex≤(dnL m n dp ex).2.2∧(dnL m n dp ex).2.2≤ex + potD n dp∧(dnL m n dp ex).1≠0∧dp - potD n dp≤(dnL m n dp ex).2.1:=by
  intro m
  induction m with
  | zero=>intro n dp ex h0 hd;simp only [dnL];exact ⟨by omega,by omega,h0,by omega⟩
  | succ m ih =>
    intro n dp ex h0 hd
    by_cases h:0 < dp
    · rw [dnL_step h]
      obtain ⟨p1,p2,p3⟩:=potD_step h0 h (by omega)
      obtain ⟨q1,q2,q3,q4⟩:=ih (rsN (ptab dp) n) (rsP (ptab dp) n dp) (ex + ptab dp) (rsN_pos h0) (by omega)
      have hrg:=rsP_ge (k:=ptab dp) (dp:=dp) h0
      exact ⟨by omega,by omega,q3,by omega⟩
    · rw [dnL_stop h];exact ⟨by simp,by simp;omega,h0,by simp;omega⟩
theorem up_bd:∀ (m n:Nat) (dp ex:Int),n≠0→(upL m n dp ex).2.2≤ex∧ex - potU n dp≤(upL m n dp ex).2.2:=by
  intro m
  induction m with
  | zero=>intro n dp ex h0;simp only [upL];omega
  | succ m ih =>
    intro n dp ex h0
    cases h:upC n dp with
    | true =>
      rw [upL_step h]
      obtain ⟨p1,p2,p3,p4⟩:=potU_step h0 h
      obtain ⟨q1,q2⟩:=ih (lsN (ptab (-dp)) n) (lsP (ptab (-dp)) n dp) (ex - ptab (-dp)) (lsN_pos h0)
      omega
    | false=>rw [upL_stop h];simp only;omega
theorem fbBits_nn (M:Nat) (E:Int) (neg:Bool) (h0:0≤E + 1023) (h1:E + 1023≤2046):nnF (fbBits M E neg).toNat:=by
  obtain ⟨a0,a1⟩:=u64_and_le (M:Int) 4503599627370495 (by decide)
  rw [show ((4503599627370495:Nat):Int)=4503599627370495 from rfl] at a0 a1
  obtain ⟨k,hk⟩:∃ k:Nat,E + 1023=k:=⟨(E + 1023).toNat,by omega⟩
  obtain ⟨b0,b1⟩:=i64_and_le k (by omega)
  unfold fbBits
  rw [hk]
  generalize bits .and .u64 (M:Int) 4503599627370495=A at a0 a1 ⊢
  generalize bits .and .i64 (k:Int) 2047=B at b0 b1 ⊢
  obtain ⟨A,rfl⟩:∃ n:Nat,A=n:=⟨A.toNat,by omega⟩
  obtain ⟨B,rfl⟩:∃ n:Nat,B=n:=⟨B.toNat,by omega⟩
  have e1:IntKind.u64.wrap (B:Int)=B:=by rw [IntKind.wrap_u64];omega
  have e2:IntKind.u64.wrap ((B:Int) * 4503599627370496)=((B * 4503599627370496:Nat):Int):=by rw [IntKind.wrap_u64];omega
  rw [e1,e2]
  have hor:=bits_or_u64_nat A (B * 4503599627370496) (by omega) (by omega)
  have h4:2 ^ 52 * B + A=2 ^ 52 * B ||| A:=Nat.two_pow_add_eq_or_of_lt (by omega) B
  have h5:A ||| B * 4503599627370496=4503599627370496 * B + A:=by rw [Nat.or_comm,Nat.mul_comm B];exact h4.symm
  rw [h5] at hor
  rw [hor]
  cases neg
  · simp only [Bool.false_eq_true,if_false,Int.toNat_natCast]
    apply nnF_of;omega
  · simp only [if_true]
    have hor2:=bits_or_u64_nat (4503599627370496 * B + A) 9223372036854775808 (by omega) (by decide)
    rw [show ((9223372036854775808:Nat):Int)=9223372036854775808 from rfl] at hor2
    rw [hor2,Int.toNat_natCast]
    apply nnF_of
    have h6:((4503599627370496 * B + A) ||| 9223372036854775808) % 2 ^ 63=((4503599627370496 * B + A) % 2 ^ 63) ||| (9223372036854775808 % 2 ^ 63):=Nat.or_mod_two_pow
    rw [show 9223372036854775808 % 2 ^ 63=0 from by decide,Nat.or_zero] at h6
    omega
theorem fbRes_nn {N:Nat} {dp:Int} (neg:Bool) (hN:N≠0) (h1:-60≤dp) (h2:dp≤15):nnF (fbRes N dp neg).toNat:=by
  have hpt0 : potD N dp ≤ 59 := by unfold potD; repeat' split
                                   all_goals omega
  have hpt1:dp - potD N dp≥-60:=by
    by_cases h:0 < dp
    · omega
    · have:potD N dp=0:=by unfold potD;rw [if_pos (by omega)]
      omega
  obtain ⟨q1,q2,q3,q4⟩:=dn_bd 59 N dp 0 hN h2
  unfold fbRes
  generalize dnL 59 N dp 0=D at *
  obtain ⟨n,d,ex⟩:=D
  simp only at q1 q2 q3 q4 ⊢
  have hpu:=potU_le n (dp:=d) (by omega)
  obtain ⟨r1,r2⟩:=up_bd 224 n d ex q3
  generalize upL 224 n d ex=U at *
  obtain ⟨n',d',ex'⟩:=U
  simp only at r1 r2 ⊢
  generalize rintN _ _ _=M
  have key:∀ (M:Nat) (E:Int),-300≤E→E≤100→nnF (fbFin M E neg).toNat:=fun M E e1 e2=>by
    unfold fbFin
    split
    · exact fbBits_nn M _ neg (by omega) (by omega)
    · exact fbBits_nn M _ neg (by omega) (by omega)
  unfold fbTail
  apply key
  · split<;>omega
  · split<;>omega
end Go.Proofs.YtfkecmlmnhbmoaaGreatDoor
namespace Go.Proofs.YtfkecmlmnhbmoaaGreatDoor
open Go Go.RowKit
structure InitP (W0:World):Prop where
  init:Init W0
  tabs:Lib.Utf8Tabs 26 27 W0
  hexErr:∃ ev,W0.cell? ⟨23,0,Option.none⟩=some ev
theorem tabs_env {W0 w:World} (h:Lib.Utf8Tabs 26 27 W0) (hE:Env W0 w):Lib.Utf8Tabs 26 27 w :=
  ⟨fun c hc=>hE.cell (h.1 c hc),fun i hi=>⟨hE.cell (h.2 i hi).1,hE.cell (h.2 i hi).2⟩⟩
theorem split_last (q:UInt8→Bool):∀ l:By,∃ a b,l=a ++ b∧(∀ c∈b,q c=true)∧∀ c∈a.getLast?,q c=false:=by
  intro l
  induction l with
  | nil=>exact ⟨[],[],rfl,by simp,by simp⟩
  | cons c l ih =>
    obtain ⟨a,b,rfl,h1,h2⟩:=ih
    by_cases ha:a=[]
    · subst ha
      by_cases hc:q c=true
      · exact ⟨[],c::b,rfl,fun d hd=>by rcases List.mem_cons.1 hd with rfl | hd;exact hc;exact h1 d hd,by simp⟩
      · exact ⟨[c],b,rfl,h1,by simp;simpa using hc⟩
    · refine ⟨c::a,b,rfl,h1,fun d hd=>h2 d ?_⟩
      cases a with
      | nil=>exact absurd rfl ha
      | cons e a=>rwa [List.getLast?_cons_cons] at hd
theorem sp_pred (w:World):PredAt Tryz.prog 95 #[] encR (fun x=>spaceZ (x:Nat)) w:=fun W x _=>(space_any x W).mono fun _ _ h=>⟨h.1,0,by rw [h.2];rfl⟩
theorem sp_enters (args:Array Value) (w:World):(callFunc 95 args).run Tryz.prog w=.ok (.enter 95 args) w:=by
  simp [go_sem]
theorem sp_white {c:UInt8} (h:isWhite (c.toNat:Int)=true) (h0:(c.toNat:Int)≠0):(c.toNat:Int) < 128∧spaceZ (c.toNat:Nat)=true:=by
  have:=white_range h
  refine ⟨by omega,?_⟩
  unfold spaceZ
  simp only [Bool.or_eq_true,beq_iff_eq,decide_eq_true_eq,Bool.and_eq_true]
  omega
theorem sp_hex {c:UInt8} (h:hexOkc c) (hw:isWhite (c.toNat:Int)=false):(c.toNat:Int) < 128∧spaceZ (c.toNat:Nat)=false:=by
  have h1:=hexOkc_ne h
  rcases h with ⟨h2,_⟩ | ⟨_,h2⟩
  · rw [hw] at h2;exact absurd h2 (by decide)
  · have h3:=(hex_up c h2).2.2.2
    have hv:=upB_val c
    refine ⟨h1.2,?_⟩
    unfold spaceZ
    simp only [Bool.or_eq_false_iff,beq_eq_false_iff_ne,Bool.and_eq_false_iff,decide_eq_false_iff_not]
    split at hv<;>omega
set_option maxRecDepth 100000 in
set_option maxHeartbeats 40000000 in
theorem trimsp_any (W0:World) (hI:InitP W0) (h:By) (hok:∀ c∈h,hexOkc c) (hl:h.length≤1000000000) (w:World) (hE:Env W0 w):Calls Tryz.prog 194 #[.string (bs h)] w fun e w'=>(∃ a m b,h=a ++ m ++ b∧(∀ c∈a,isWhite (c.toNat:Int)=true∧(c.toNat:Int)≠0)∧(∀ c∈b,isWhite (c.toNat:Int)=true)∧e=.returned (.string (bs m)))∧Below w.heap.size w w':=by
  have hT:=tabs_env hI.tabs hE
  have e1:Lib.trimLeftF (fun x=>spaceZ (x:Nat)) (bs h)=bs (h.dropWhile fun c=>isWhite (c.toNat:Int)):=by
    refine trimLeft_ascii _ (fun c=>isWhite (c.toNat:Int)) h (fun c hc=>?_) (fun c hc=>?_)
    · have hw:=takeWhile_all c hc
      have hm:c∈h:=(List.takeWhile_sublist _).subset hc
      refine sp_white hw ?_
      rcases hok c hm with h1 | h1
      · exact h1.2
      · rw [hw] at h1;exact absurd h1.1 (by decide)
    · have hw:=dropWhile_head c hc
      have hm:c∈h:=(List.dropWhile_sublist _).subset (List.mem_of_mem_head? hc)
      exact sp_hex (hok c hm) hw
  have hd:h.takeWhile (fun c=>isWhite (c.toNat:Int)) ++ h.dropWhile (fun c=>isWhite (c.toNat:Int))=h:=List.takeWhile_append_dropWhile
  have ha:∀ c∈h.takeWhile (fun c=>isWhite (c.toNat:Int)),isWhite (c.toNat:Int)=true∧(c.toNat:Int)≠0:=by
    intro c hc
    have hw:=takeWhile_all c hc
    have hm:c∈h:=(List.takeWhile_sublist _).subset hc
    refine ⟨hw,?_⟩
    rcases hok c hm with h1 | h1
    · exact h1.2
    · rw [hw] at h1;exact absurd h1.1 (by decide)
  have hok1:∀ c∈h.dropWhile (fun c=>isWhite (c.toNat:Int)),hexOkc c:=fun c hc=>hok c ((List.dropWhile_sublist _).subset hc)
  have hlen:(h.dropWhile (fun c=>isWhite (c.toNat:Int))).length≤h.length:=(List.dropWhile_sublist _).length_le
  generalize h.takeWhile (fun c=>isWhite (c.toNat:Int))=a at hd ha
  generalize h.dropWhile (fun c=>isWhite (c.toNat:Int))=h1 at e1 hd hok1 hlen
  obtain ⟨m,b,hmb,hb,hm⟩:=split_last (fun c=>isWhite (c.toNat:Int)) h1
  have e2:Lib.trimRightF (fun x=>spaceZ (x:Nat)) (bs h1)=bs m:=by
    rw [hmb]
    refine trimRight_ascii _ m b (fun c hc=>?_) (fun c hc=>?_)
    · have hcm:c∈m:=List.mem_of_getLast? hc
      exact sp_hex (hok1 c (by rw [hmb];simp [hcm])) (hm c hc)
    · have hw:=hb c hc
      refine sp_white hw ?_
      rcases hok1 c (by rw [hmb];simp [hc]) with h2 | h2
      · exact h2.2
      · rw [hw] at h2;exact absurd h2.1 (by decide)
  have hsz:(bs h1).size≤9223372036854775807:=by rw [bs_size];omega
  have E1:=Lib.hid e1
  have E2:=Lib.hid e2
  have HT:=Lib.hid hT
  have Hfin:=Lib.hid (show h=a ++ m ++ b by rw [←hd,hmb];simp)
  clear e1 e2 hT hd hmb hok hok1 hlen
  go_enter Tryz.func194,Tryz.ntmps194
  go_wp2_with fail
  refine (Tryz.strings_TrimLeftFunc 95 #[] sp_enters (fun x=>spaceZ (x:Nat)) (bs h) w (sp_pred w)).mono ?_
  rintro e w1 ⟨rfl,hb1⟩
  rw [E1.out]
  go_wp2_with fail
  refine (Tryz.strings_TrimRightFunc 95 #[] sp_enters (fun x=>spaceZ (x:Nat)) (bs h1) w1 hsz (Utf8Tabs_below HT.out hb1) (sp_pred w1)).mono ?_
  rintro e w2 ⟨rfl,hb2⟩
  rw [E2.out]
  go_wp2_with fail
  go_ret
  exact ⟨⟨a,m,b,Hfin.out,ha,hb,rfl⟩,hb1.trans (hb2.mono hb1.size)⟩
end Go.Proofs.YtfkecmlmnhbmoaaGreatDoor
namespace Go.Proofs.YtfkecmlmnhbmoaaGreatDoor
open Go Go.RowKit
theorem pre_eq (l p:By):Lib.hasPrefix (bs l).data.toList (bs p).data.toList=p.isPrefixOf l:=by
  rw [bs_list,bs_list]
  rw [Bool.eq_iff_iff,List.isPrefixOf_iff_prefix]
  simp [Lib.hasPrefix]
theorem prefix_any (l p:By) (v:Bool) (h:p.isPrefixOf l=v) (w:World):Calls Tryz.prog 130 #[.string (bs l),.string (bs p)] w fun e w'=>e=.returned (.bool v)∧w'=w:=by
  have:=Tryz.strings_HasPrefix (bs l) (bs p) w
  rwa [pre_eq,h] at this
set_option maxRecDepth 100000 in
set_option maxHeartbeats 40000000 in
theorem lit102_any (w:World) (b:Nat) (l s r:By) (hL:LineAt w b (40::l)) (hb:balF false l 1=some (s,r)) (hs:l=s ++ 41::r) (hl:l.length≤1000000) :
    Calls Tryz.prog 102 #[.pointer (some ⟨b,0,none⟩)] w fun e w'=>e=.returned (.tuple #[.iface 69 (.string (bs s)),.nilIface])∧LineAt w' b r∧w.grownBy w' (some b):=by
  obtain ⟨c0,f0⟩:=hL.cell
  have hbal:=bal_any l s r hb (by omega)
  obtain ⟨z,hz⟩:∃ z,z=bs (40::l):=⟨_,rfl⟩
  have hzs:z.size=l.length + 1:=by rw [hz,bs_size];simp
  have hsl:s.length + 1≤l.length:=by rw [hs];simp
  have hx1:z.extract 1 (s.length + 1)=bs s:=by
    rw [hz,bs_extract,hs]
    congr 1
    rw [show 40::(s ++ 41::r)=[40] ++ (s ++ 41::r) by rfl,List.take_append]
    simp
  have hx2:z.extract (s.length + 1) z.size=bs (41::r):=by
    rw [hzs,hz,show l.length + 1=(40::l).length by simp,bs_drop,hs]
    congr 1
    simp
  have hpre:=fun w=>prefix_any (40::l) [40] true (by simp) w
  have e40:(⟨#[40]⟩:ByteArray)=bs [40]:=rfl
  rw [←hz] at c0 hbal hpre
  have HL:=Lib.hid hL
  have hz2:¬(z.size < 2):=by rw [hzs];omega
  have hz0:((z.size:Int) == 0)=false:=by rw [hzs];simp only [beq_eq_false_iff_ne];omega
  have hle:s.length + 1≤z.size:=by omega
  clear hL hz hb hs hzs
  go_enter Tryz.func102,Tryz.ntmps102
  go_wp2_with fail
  refine (hpre _).mono ?_
  rintro e w1 ⟨rfl,rfl⟩
  go_wp2_with fail
  refine (hbal _).mono ?_
  rintro e w1 ⟨rfl,rfl⟩
  go_wp2_with fail
  refine (fwd_any (41::r) 1 _).mono ?_
  rintro e w1' ⟨rfl,hw1⟩
  subst w1'
  go_wp2_with fail
  go_ret2
  exact ⟨rfl,by simpa using HL.out.set r,gr_set (World.grownBy.refl _ _) _ _⟩
set_option maxRecDepth 100000 in
set_option maxHeartbeats 40000000 in
theorem hex134_any (W0:World) (hI:InitP W0) (w:World) (hE:Env W0 w) (b:Nat) (h r:By) (hL:LineAt w b (60::(h ++ 62::r))) (hok:∀ c∈h,hexOkc c) (hl:h.length≤1000000) (hl2:r.length≤1000000) :
    Calls Tryz.prog 134 #[.pointer (some ⟨b,0,none⟩)] w fun e w'=>(∃ a m c,h=a ++ m ++ c∧(∀ x∈a,isWhite (x.toNat:Int)=true∧(x.toNat:Int)≠0)∧(∀ x∈c,isWhite (x.toNat:Int)=true)∧e=.returned (.tuple #[.iface 70 (.string (bs (hexS m 0 []))),.nilIface]))∧LineAt w' b r∧w.grownBy w' (some b):=by
  obtain ⟨c0,f0⟩:=hL.cell
  have hbw:=hL.lt
  obtain ⟨l,hll⟩:∃ l,l=h ++ 62::r:=⟨_,rfl⟩
  rw [←hll] at hL c0
  have hidx:=index_any l 62 (by rw [hll];simp;omega)
  have hn62:(62:UInt8)∉h:=fun hm=>(hexOkc_ne (hok 62 hm)).1 rfl
  rw [hll,idxB_at 62 h r hn62,←hll] at hidx
  obtain ⟨z,hz⟩:∃ z,z=bs (60::l):=⟨_,rfl⟩
  obtain ⟨y,hy⟩:∃ y,y=bs l:=⟨_,rfl⟩
  have hzs:z.size=l.length + 1:=by rw [hz,bs_size];simp
  have hys:y.size=l.length:=by rw [hy,bs_size]
  have hsl:h.length + 1≤l.length:=by rw [hll];simp
  have hx1:y.extract 0 h.length=bs h:=by
    rw [hy,bs_take,hll]
    congr 1
    simp
  have hx2:y.extract h.length y.size=bs (62::r):=by
    rw [hys,hy,bs_drop,hll]
    congr 1
    simp
  have hpre:=fun w=>prefix_any (60::l) [60] true (by simp) w
  have hfwd:=fun w=>fwd_any (60::l) 1 w
  rw [←hz] at c0 hpre hfwd
  simp only [List.drop_succ_cons,List.drop_zero,←hy] at hfwd
  rw [←hy] at hidx
  have HL:=Lib.hid hL
  have HI:=Lib.hid hI
  have HE:=Lib.hid hE
  have HOK:=Lib.hid hok
  have hz2:¬(z.size < 2):=by rw [hzs];omega
  have hz0:((z.size:Int) == 0)=false:=by rw [hzs];simp only [beq_eq_false_iff_ne];omega
  have hle:h.length≤y.size:=by omega
  have e62:(⟨#[62]⟩:ByteArray)=bs [62]:=rfl
  have e60:(⟨#[60]⟩:ByteArray)=bs [60]:=rfl
  clear hL hI hE hok hz hy hzs hys hll hsl
  go_enter Tryz.func134,Tryz.ntmps134
  go_wp2_with fail
  refine (hpre _).mono ?_
  rintro e w1' ⟨rfl,hw1⟩
  subst w1'
  go_wp2_with fail
  refine (hfwd _).mono ?_
  rintro e w1' ⟨rfl,hw1⟩
  subst w1'
  go_wp2_with fail
  refine (hidx _).mono ?_
  rintro e w1' ⟨rfl,hw1⟩
  subst w1'
  go_wp2_with fail
  refine (trimsp_any W0 HI.out h HOK.out (by omega) _ HE.out).mono ?_
  rintro e w2 ⟨⟨a,m,c,hm,ha,hc,rfl⟩,hb2⟩
  have hmok:∀ x∈m,hexOkc x:=fun x hx=>HOK.out x (by rw [hm];simp [hx])
  have hml:m.length≤h.length:=by rw [hm];simp;omega
  have Hm:=Lib.hid hm
  clear hm
  go_wp2_with fail
  refine (hexstr_any m hmok (by omega) _).mono ?_
  rintro e w3 ⟨⟨pb,rfl,hpb,hpb1⟩,hb3⟩
  obtain ⟨d0,df⟩:=hpb.cell
  have hL3:LineAt w3 b (60::l):=(HL.out.keep (gr_of_below hb2) (by simp)).keep (gr_of_below hb3) (by simp)
  have hG3:=(gr_of_below hb2).trans (gr_of_below hb3)
  have f3:=hL3.cell.2
  have c3:=hL3.cell.1
  have hlt3:=hL3.lt
  have hne:pb≠b:=by have:=hb2.size;omega
  have HL3:=Lib.hid hL3
  have HG3:=Lib.hid hG3
  clear hpb hL3 hb2 hb3 hG3
  go_wp2_with fail
  refine (fwd_any (62::r) 1 _).mono ?_
  rintro e w4 ⟨rfl,hw4⟩
  subst w4
  go_wp2_with fail
  go_ret2
  exact ⟨⟨a,m,c,Hm.out,ha,hc,rfl⟩,by simpa using HL3.out.set r,gr_set (HG3.out.but _) _ _⟩
end Go.Proofs.YtfkecmlmnhbmoaaGreatDoor
namespace Go.Proofs.YtfkecmlmnhbmoaaGreatDoor
open Go Go.RowKit
theorem wpList_push2 {w:World} {ops:Array Oper} {rest:List Oper} {o:Oper} {a:Act} {Q:Exit→Act→World→Prop} (hgd:o.guard=Option.none) (s x:Operand)
    (ho:o.op=.call { callee:=.builtin .append,args:=#[s,x],argTypes:=#[84,84] }) (B:Nat) (v:Value) (l:By) (c:UInt8) (hs:a.eval s=v) (hown:OwnB B w v l)
    (g cap:Nat) (hx:a.eval x=.slice (some ⟨g,0,none⟩) 1 cap) (hcell:w.cell? ⟨g,0,none⟩=some (.int .u8 (c.toNat:Int))) (hl:l.length + 1≤140737488355328) (hB:B≤w.heap.size)
    (h:∀ v' w',OwnB B w' v' (l ++ [c])→w.grownBy w' v.ownBlock→wpList Tryz.prog ops Q rest (a.put o.dst v') w'):wpList Tryz.prog ops Q (o::rest) a w:=by
  obtain ⟨i,hi,hz0,hz1,hz2⟩:=info_parts Tryz.info5
  refine wpList_append_own w hgd s x 84 ho B 5 i (.int .u8 0) 1 1 Tryz.underlying84 hi hz0 hz1 hz2 rfl (by decide) v l.length _ hs hown ⟨g,0,none⟩ 1 cap [.int .u8 (c.toNat:Int)] hx rfl ?_ ?_ (by unfold maxLen;omega) (by omega) hB ?_
  · intro j u hj
    match j,hj with
    | 0,hj=>simp at hj;subst hj;rw [show (⟨g,0,none⟩:Addr).add 0=⟨g,0,none⟩ from by simp [Addr.add]];exact hcell
    | j + 1,hj=>simp at hj
  · intro u hu;simp at hu;subst hu;rfl
  · intro v' w' h1 h2 _
    exact h v' w' (by unfold OwnB;simpa using h1) h2
set_option maxRecDepth 100000 in
set_option maxHeartbeats 40000000 in
theorem wslice_any (w:World) (b B:Nat) (l:By) (c:UInt8) (g cap:Nat) (h:BldAt w b B l) (hc:w.cell? ⟨g,0,none⟩=some (.int .u8 (c.toNat:Int))) (hgb:g≠b) (hl:l.length≤1000000000):Calls Tryz.prog 218 #[.pointer (some ⟨b,0,none⟩),.slice (some ⟨g,0,none⟩) 1 cap] w fun e w'=>(∃ k,e=.returned (.tuple #[k,.nilIface]))∧BldPost B b w w' (l ++ [c]):=by
  have hbB:=h.1
  have hBw:=h.2.1
  go_enter Tryz.func218,Tryz.ntmps218
  go_wp2_with fail
  refine (copy_any w b B l h).mono ?_
  rintro e w1 ⟨rfl,⟨p0,v,hb0,hb1,hv1⟩,hg1,-⟩
  have Hb0:=Lib.hid hb0;clear hb0
  have hs1:=hg1.size
  have c0:w1.cell? ⟨b,0,none⟩=some (.pointer (some ⟨b,0,none⟩)):=by simp [World.cell?,hb1]
  have c1:w1.cell? ⟨b,1,none⟩=some v:=by simp [World.cell?,hb1]
  have hlt:b < w1.heap.size:=(Array.getElem?_eq_some_iff.1 hb1).1
  have hglt:g < w.heap.size:=World.block_lt_of_cell? _ _ hc
  have hc1:w1.cell? ⟨g,0,none⟩=some (.int .u8 (c.toNat:Int)):=(World.cell?_of_block (hg1.block g hglt (by simpa using hgb))).trans hc
  have Hb1:=Lib.hid hb1;clear hb1
  have Hv1:=Lib.hid hv1;clear hv1
  have Hg1:=Lib.hid hg1;clear hg1
  have Hc1:=Lib.hid hc1;clear hc1
  clear hc
  go_wp2_with (at_builtin;go_must (refine wpList_push2 rfl (.tmp 12) (.tmp 13) rfl B _ l c rfl Hv1.out g cap rfl Hc1.out (by omega) (by omega) ?_))
  intro v1 w2 hown1 hgr1
  have hb2:w2.heap[b]?=some (.cells #[.pointer (some ⟨b,0,none⟩),v] 296 (0,0)):=by
    rw [hgr1.block b hlt (own_ne Hv1.out hbB)];exact Hb1.out
  have d0:w2.cell? ⟨b,0,none⟩=some (.pointer (some ⟨b,0,none⟩)):=by simp [World.cell?,hb2]
  have d1:w2.cell? ⟨b,1,none⟩=some v:=by simp [World.cell?,hb2]
  have f1:w2.frozen? ⟨b,1,none⟩=false:=by simp [World.frozen?,hb2]
  obtain ⟨g2,cap2,rfl⟩:∃ g cap,v1=.slice (some ⟨g,0,none⟩) (l.length + 1) cap:=by
    rcases hown1.2 with ⟨_,h0⟩ | ⟨g,cap,cur,hv,_⟩
    · simp at h0
    · exact ⟨g,cap,by simpa using hv⟩
  have HP:=Lib.hid (bld_store hbB hBw Hb0.out Hb1.out Hv1.out Hg1.out (World.grownBy.refl _ _) hgr1 hown1)
  clear hb2 hgr1 hown1
  go_wp2_with fail
  go_ret2
  exact ⟨⟨_,rfl⟩,HP.out⟩
theorem hx_v {c:UInt8} (h:0≤hexVal (c.toNat:Int)):Lib.Hx.v c=(hexVal (c.toNat:Int)).toNat:=by
  have hr:48≤(c.toNat:Int)∧(c.toNat:Int)≤57∨97≤(c.toNat:Int)∧(c.toNat:Int)≤102∨65≤(c.toNat:Int)∧(c.toNat:Int)≤70:=by
    unfold hexVal at h
    repeat' split at h
    all_goals omega
  have hc:c=48∨c=49∨c=50∨c=51∨c=52∨c=53∨c=54∨c=55∨c=56∨c=57∨c=65∨c=66∨c=67∨c=68∨c=69∨c=70∨c=97∨c=98∨c=99∨c=100∨c=101∨c=102:=by
    simp only [←UInt8.toNat_inj]
    simp
    omega
  rcases hc with rfl | rfl | rfl | rfl | rfl | rfl | rfl | rfl | rfl | rfl | rfl | rfl | rfl | rfl | rfl | rfl | rfl | rfl | rfl | rfl | rfl | rfl<;>rfl
theorem hx_decode {a d:UInt8} (ha:0≤hexVal (a.toNat:Int)) (hd:0≤hexVal (d.toNat:Int)):Lib.Hx.decode [a,d]=([ub (16 * hexVal (a.toNat:Int) + hexVal (d.toNat:Int))],.ok):=by
  have r1:=hexVal_range (a.toNat:Int)
  have r2:=hexVal_range (d.toNat:Int)
  rw [Lib.Hx.decode_two,hx_v ha,hx_v hd,if_neg (by omega),if_neg (by omega),Lib.Hx.decode_nil]
  simp only [ub]
  congr 2
  congr 1
  omega
def DnI (l:By) (k:By) (i:Nat) (rep:Bool) (rest out:By):Prop:=∃ pre,l=pre ++ rest∧i=pre.length∧nameB rest out=some k∧out.length≤pre.length∧(rep=false→out=pre)
set_option maxRecDepth 100000 in
set_option maxHeartbeats 40000000 in
theorem decname_any (W0:World) (hI:InitP W0) (l k:By) (hk:nameB l []=some k) (hpl:∀ c∈l,isPlain (c.toNat:Int)=true) (hl:l.length≤1000000) (w:World) (hE:Env W0 w):Calls Tryz.prog 190 #[.string (bs l)] w fun e w'=>e=.returned (.tuple #[.string (bs k),.nilIface])∧Below w.heap.size w w':=by
  obtain ⟨ev,hev⟩:=hI.hexErr
  obtain ⟨z,hz⟩:∃ z,z=bs l:=⟨_,rfl⟩
  have hzs:z.size=l.length:=by rw [hz,bs_size]
  rw [←hz]
  have Hz:=Lib.hid hz
  have HE:=Lib.hid hE
  have Hev:=Lib.hid hev
  have Hk:=Lib.hid hk
  have Hpl:=Lib.hid hpl
  clear hz hE hev hk hpl hI
  go_enter Tryz.func190,Tryz.ntmps190
  go_wp2_with fail
  go_loopg [4,6] l.length (fun g t4 t6 wr=>∃ (i:Nat) (rep:Bool) (rest out:By),rest.length≤g∧t4=.bool rep∧t6=.int .i64 i∧DnI l k i rep rest out∧BldAt wr w.heap.size (w.heap.size + 1) (if rep then out else [])∧(rep=false→wr.heap[w.heap.size]?=some (.cells #[.pointer none,.slice none 0 0] 296 (0,0)))∧Below w.heap.size w wr)
  case atStart=>exact ⟨0,false,l,[],Nat.le_refl _,rfl,rfl,⟨[],rfl,rfl,Hk.out,Nat.le_refl _,fun _=>rfl⟩,BldAt.fresh w,fun _=>heap_alloc_new w _,(Below.refl _ w).alloc (Nat.le_refl _) _⟩
  case round =>
    obtain ⟨i,rep,rest,out,hg,rfl,rfl,⟨pre,hp,hi,hn,hol,hrep⟩,hB,hfr,hb⟩:=hrel
    have Hfr:=Lib.hid hfr;clear hfr
    have hple:pre.length + rest.length=l.length:=by rw [hp];simp
    cases rest with
    | nil =>
      have hlt:¬i < z.size:=by rw [hzs];simp at hple;omega
      have hok:out=k:=by simpa [nameB] using hn
      have hpre:pre=l:=by rw [hp];simp
      have Hb:=Lib.hid hb
      have HB:=Lib.hid hB
      clear hb hB hp hn hg
      cases rep
      · have ho:=hrep rfl
        have hzk:z=bs k:=by rw [Hz.out,←hok,ho,hpre]
        have Hzk:=Lib.hid hzk
        clear hrep hple hzs hi hpre hok ho hzk hol
        go_wp2_with fail
        go_ret2
        exact ⟨by rw [Hzk.out];rfl,Hb.out⟩
      · have Hok:=Lib.hid hok
        clear hrep hple hzs hi hpre hok hol
        go_wp2_with fail
        refine (wtoS_any wr w.heap.size _ _ HB.out).mono ?_
        rintro e w2 ⟨rfl,hb2⟩
        go_wp2_with fail
        go_ret2
        exact ⟨by simp [Hok.out],Hb.out.trans hb2⟩
    | cons c rest =>
      have hlt:i < z.size:=by rw [hzs];simp at hple;omega
      obtain ⟨hk0,hget0⟩:=bs_at (l:=l) (pre:=pre) (c:=c) (post:=rest) hp
      have hget:z[i]'hlt=c:=by simp only [Hz.out,hi];exact hget0
      have hplc:=plain_range (Hpl.out c (by rw [hp];simp))
      have hc0:((c.toNat:Int) == 0)=false:=by simp only [beq_eq_false_iff_ne];omega
      have hil:i < 1000000:=by omega
      have hol2:out.length≤1000000:=by omega
      have Hb:=Lib.hid hb
      have HB:=Lib.hid hB
      have Hp:=Lib.hid hp
      have Hi:=Lib.hid hi
      have Hol:=Lib.hid hol
      have Hrep:=Lib.hid hrep
      clear hb hB hi hol hrep hk0 hget0
      rcases Bool.eq_false_or_eq_true ((c.toNat:Int) != 35) with h35 | h35
      · have hn2:=Lib.hid (show nameB rest (out ++ [c])=some k by rw [←hn,nameB_plain h35])
        clear hp hn hple hzs
        cases rep
        · go_wp2_with fail
          go_roundg (gk - 1)
          case measure=>simp at hg;omega
          case rel=>exact ⟨i + 1,false,rest,out ++ [c],by simp at hg;omega,rfl,rfl,⟨pre ++ [c],by rw [Hp.out];simp,by rw [Hi.out];simp,hn2.out,by have:=Hol.out;simp;omega,fun _=>by rw [Hrep.out (by trivial)]⟩,HB.out,(fun _=>Hfr.out (by trivial)),Hb.out⟩
        · go_wp2_with fail
          refine (wbyte_any wr w.heap.size _ out c HB.out (by omega)).mono ?_
          rintro e w2 ⟨rfl,hB2,hK2⟩
          go_wp2_with fail
          go_roundg (gk - 1)
          case measure=>simp at hg;omega
          case rel=>exact ⟨i + 1,true,rest,out ++ [c],by simp at hg;omega,rfl,rfl,⟨pre ++ [c],by rw [Hp.out];simp,by rw [Hi.out];simp,hn2.out,by have:=Hol.out;simp;omega,fun e=>by cases e⟩,hB2,(fun e=>by cases e),Hb.out.trans hK2.1⟩
      · match rest, hn, hp, hple, hg with
        | [],hn,_,_,_=>rw [nameB_1 h35] at hn;simp at hn
        | [a],hn,_,_,_=>rw [nameB_2 h35] at hn;simp at hn
        | a :: d :: rest2, hn, hp, hple, hg =>
          rw [nameB_3 h35] at hn
          split at hn
          · simp at hn
          · rename_i hv
            simp only [not_or,Int.not_lt] at hv
            split at hn
            · simp at hn
            · rename_i hz0
              have hn2:=Lib.hid hn
              obtain ⟨x,hx⟩:∃ x,x=ub (16 * hexVal (a.toNat:Int) + hexVal (d.toNat:Int)):=⟨_,rfl⟩
              have r1:=hexVal_range (a.toNat:Int)
              have r2:=hexVal_range (d.toNat:Int)
              have hx0:((x.toNat:Int) == 0)=false:=by
                rw [hx,←ub_of (by omega) (by omega)]
                simpa using hz0
              have hdec:=hx_decode hv.1 hv.2
              rw [←hx] at hdec hn2
              have hlt3:¬((z.size:Int) < (i:Int) + 3):=by rw [hzs];simp at hple;have:=Hi.out;omega
              have hcut:z.extract (i + 1) (i + 3)=bs [a,d]:=by
                rw [Hz.out,bs_extract,hp,Hi.out]
                congr 1
                rw [show pre ++ c::a::d::rest2=(pre ++ [c,a,d]) ++ rest2 by simp,List.take_left' (by simp),show pre ++ [c,a,d]=(pre ++ [c]) ++ [a,d] by simp,List.drop_left' (by simp)]
              have hsl:i + 3≤z.size:=by rw [hzs];simp at hple;have:=Hi.out;omega
              have hpre:z.extract 0 i=bs pre:=by
                rw [Hz.out,bs_take,hp,Hi.out];congr 1;simp
              have Hdec:=Lib.hid hdec
              have Hple:=Lib.hid hple
              have Hp:=Lib.hid hp
              have Hx:=Lib.hid hx
              clear hn hp hple hzs hdec hv hz0 r1 r2 hx
              go_wp2_with fail
              have hEw:=HE.out.grown0 (gr_of_below Hb.out)
              refine (Tryz.hex_DecodeString_owns (bs [a,d]) wr ev (hEw.cell Hev.out) (by rw [bs_size];simp)).mono ?_
              rintro e w2 ⟨v,rfl,hown,hb2⟩
              rw [bs_list,Hdec.out] at hown
              rw [bs_list,Hdec.out]
              simp only [Lib.Hx.errVal]
              obtain ⟨g,cap,hvv,hgb,hcell,hglt⟩:∃ g cap,v=.slice (some ⟨g,0,none⟩) 1 cap∧wr.heap.size≤g∧w2.cell? ⟨g,0,none⟩=some (.int .u8 (x.toNat:Int))∧g < w2.heap.size:=by
                rcases hown.2 with ⟨_,h0⟩ | ⟨g,cap,cur,hv,hb,hg,hc,hm,hs,ht⟩
                · simp at h0
                · refine ⟨g,cap,hv,hb,?_,(Array.getElem?_eq_some_iff.1 hg).1⟩
                  have h0:cur.toList[0]?=some (.int .u8 (x.toNat:Int)):=by
                    have:=congrArg (fun l=>l[0]?) ht
                    simp only [List.getElem?_take] at this
                    simpa using this
                  have h1:cur[0]?=some (.int .u8 (x.toNat:Int)):=by simpa using h0
                  simp [World.cell?,hg,h1]
              subst hvv
              have hBb:w.heap.size < wr.heap.size:=by have:=HB.out.2.1;omega
              have HB2:=Lib.hid (HB.out.below hb2)
              have Hb2:=Lib.hid (Hb.out.trans (hb2.mono Hb.out.size))
              have hb2b:=Lib.hid hb2
              clear hown hb2 hEw
              cases rep
              · have HB3:=Lib.hid (show BldAt w2 w.heap.size (w.heap.size + 1) [] from HB2.out)
                have Hfw:=Lib.hid ((hb2b.out.block w.heap.size hBb).trans (Hfr.out (by trivial)))
                go_wp2_with fail
                refine (wstr_any w2 w.heap.size _ [] pre HB3.out (by have:=Hi.out;simp;omega)).mono ?_
                rintro e w3 ⟨⟨k3,rfl⟩,hB4,hK4⟩
                have hpo:pre=out:=(Hrep.out (by trivial)).symm
                rw [List.nil_append,hpo] at hB4
                have hcell3:w3.cell? ⟨g,0,none⟩=some (.int .u8 (x.toNat:Int)):=by
                  have hfw:w2.heap[w.heap.size]?=some (.cells #[.pointer none,.slice none 0 0] 296 (0,0)):=Hfw.out
                  refine (World.cell?_of_block (hK4.2.2.2 g hglt (by omega) (fun p v hpv=>?_))).trans hcell
                  rw [hfw] at hpv
                  injection hpv with hpv
                  injection hpv with hpv
                  have:=congrArg (fun a=>a[1]?) hpv
                  simp at this
                  rw [←this]
                  simp [Value.ownBlock]
                go_wp2_with fail
                refine (wslice_any w3 w.heap.size _ out x g cap hB4 hcell3 (by omega) (by omega)).mono ?_
                rintro e w4 ⟨⟨k4,rfl⟩,hB5,hK5⟩
                go_wp2_with fail
                go_roundg (gk - 3)
                case measure=>simp at hg;omega
                case rel=>exact ⟨i + 3,true,rest2,out ++ [x],by simp at hg;omega,rfl,by congr 1,⟨pre ++ [c,a,d],by rw [Hp.out];simp,by rw [Hi.out];simp,hn2.out,by have:=Hol.out;simp;omega,fun e=>by cases e⟩,hB5,(fun e=>by cases e),(Hb2.out.trans hK4.1).trans hK5.1⟩
              · have HB3:=Lib.hid (show BldAt w2 w.heap.size (w.heap.size + 1) out from HB2.out)
                go_wp2_with fail
                refine (wslice_any w2 w.heap.size _ out x g cap HB3.out hcell (by omega) (by omega)).mono ?_
                rintro e w4 ⟨⟨k4,rfl⟩,hB5,hK5⟩
                go_wp2_with fail
                go_roundg (gk - 3)
                case measure=>simp at hg;omega
                case rel=>exact ⟨i + 3,true,rest2,out ++ [x],by simp at hg;omega,rfl,by congr 1,⟨pre ++ [c,a,d],by rw [Hp.out];simp,by rw [Hi.out];simp,hn2.out,by have:=Hol.out;simp;omega,fun e=>by cases e⟩,hB5,(fun e=>by cases e),Hb2.out.trans hK5.1⟩
end Go.Proofs.YtfkecmlmnhbmoaaGreatDoor
