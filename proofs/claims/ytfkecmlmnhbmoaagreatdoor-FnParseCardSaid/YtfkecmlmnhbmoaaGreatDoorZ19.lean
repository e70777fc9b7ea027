/- FnParse: the texts F6 F7 F12 G5 of the workbench, laid together. -/
import Derived.Test.YtfkecmlmnhbmoaaGreatDoorProg
import Derived.WalkKit
import Derived.WalkLawsBesides
import Derived.WalkSpells
import Derived.BigQuiet
import Derived.BigRegion
import Derived.Deep.QuietTactic
import Derived.Deep.RegionHeld3
import Derived.Deep.LoopGhost
import Derived.StillTailTactics
import Derived.Lib.Hide
import Derived.Laws.EntriesVeiled
import Derived.Laws.Bits64b
import Derived.Test.YtfkecmlmnhbmoaaGreatDoorZ8
import Derived.Test.YtfkecmlmnhbmoaaGreatDoorZ12
import Derived.Test.YtfkecmlmnhbmoaaGreatDoorZ16
import Derived.Test.YtfkecmlmnhbmoaaGreatDoorZ18
set_option linter.unusedVariables false
set_option linter.unusedSimpArgs false
namespace Go.Proofs.YtfkecmlmnhbmoaaGreatDoor
open Go Go.RowKit
theorem dv_cons_aux:∀ (l:By) (n:Nat),l.foldl (fun n c=>10 * n + (c.toNat - 48)) n=n * 10 ^ l.length + dv l:=by
  intro l
  induction l with
  | nil=>intro n;simp [dv]
  | cons c l ih =>
    intro n
    simp only [List.foldl_cons,dv,List.length_cons]
    rw [ih,ih,Nat.pow_succ]
    have e:(10 * n + (c.toNat - 48)) * 10 ^ l.length=n * (10 ^ l.length * 10) + (10 * 0 + (c.toNat - 48)) * 10 ^ l.length:=by
      rw [Nat.add_mul,Nat.mul_comm 10 n,Nat.mul_assoc,Nat.mul_comm 10];simp
    rw [e];omega
theorem dv_cons (c:UInt8) (l:By):dv (c::l)=(c.toNat - 48) * 10 ^ l.length + dv l:=by
  have:=dv_cons_aux l (c.toNat - 48)
  simp only [dv,List.foldl_cons] at this ⊢
  simpa using this
theorem isDs_cons {c:UInt8} {l:By} : isDs (c::l)↔(48≤c.toNat∧c.toNat≤57)∧isDs l:=by
  unfold isDs
  simp
theorem dv_lt':∀ (l:By),isDs l→dv l < 10 ^ l.length:=by
  intro l h
  have:=dv_lt l.length l (Nat.le_refl _) (by simpa using h)
  simpa using this
def digF:Nat→Nat→By
  | 0,_=>[]
  | f + 1,n=>if n=0 then [] else digF f (n / 10) ++ [UInt8.ofNat (n % 10 + 48)]
theorem digF_spec:∀ (f n:Nat),numD n≤f→dv (digF f n)=n∧isDs (digF f n)∧(digF f n).length=numD n:=by
  intro f
  induction f with
  | zero =>
    intro n h
    by_cases h0:n=0
    · subst h0;simp [digF,dv,isDs,numD_zero]
    · have:=numD_pos1 h0;omega
  | succ f ih =>
    intro n h
    by_cases h0:n=0
    · subst h0;simp [digF,dv,isDs,numD_zero]
    · have h1:=numD_pos h0
      obtain ⟨a,b,c⟩:=ih (n / 10) (by omega)
      simp only [digF]
      rw [if_neg h0]
      refine ⟨?_,isDs_dig b (by omega),by simp [c,h1]⟩
      rw [dv_dig (by omega),a];omega
def lcS (k:Nat):ByteArray:=⟨(digF 60 (5 ^ k)).toArray⟩
def lcD (k:Nat):Nat:=k + 1 - numD (5 ^ k)
theorem pow5_lt (k:Nat) (hk:1≤k):5 ^ k < 10 ^ k:=Nat.pow_lt_pow_left (by decide) (by omega)
theorem pow5_numD (k:Nat) (hk:1≤k):1≤numD (5 ^ k)∧numD (5 ^ k)≤k:=⟨numD_pos1 (pow5_ne k),numD_le_of (pow5_lt k hk)⟩
def pilB:By→By→Bool
  | _,[]=>false
  | [],_::_=>true
  | a::l,c::r=>if a=c then pilB l r else decide (a.toNat < c.toNat)
theorem pilB_spec:∀ (l r:By),isDs l→isDs r→(r=[]∨dv r % 10≠0)→(pilB l r=true↔dv l * 10 ^ r.length < dv r * 10 ^ l.length):=by
  intro l
  induction l with
  | nil =>
    intro r _ hr h
    cases r with
    | nil=>simp [pilB,dv]
    | cons c r =>
      simp only [pilB]
      have:dv (c::r)≠0:=by rcases h with h | h;cases h;omega
      constructor
      · intro _;simp [dv] at this ⊢;omega
      · intro _;trivial
  | cons a l ih =>
    intro r hl hr h
    obtain ⟨ha,hl'⟩:=isDs_cons.1 hl
    cases r with
    | nil=>simp [pilB,dv]
    | cons c r =>
      obtain ⟨hc,hr'⟩:=isDs_cons.1 hr
      have hL:=dv_lt' l hl'
      have hR:=dv_lt' r hr'
      rw [dv_cons,dv_cons,List.length_cons,List.length_cons,Nat.pow_succ,Nat.pow_succ]
      have e1:∀ (x D P Q:Nat),(x * P + D) * (Q * 10)=10 * (x * (P * Q)) + 10 * (D * Q):=by
        intro x D P Q
        rw [Nat.add_mul,Nat.mul_assoc x P,←Nat.mul_assoc P Q 10,←Nat.mul_assoc D Q 10,←Nat.mul_assoc x];omega
      rw [e1 (a.toNat - 48) (dv l) (10 ^ l.length) (10 ^ r.length),e1 (c.toNat - 48) (dv r) (10 ^ r.length) (10 ^ l.length),Nat.mul_comm (10 ^ r.length) (10 ^ l.length)]
      have hLQ:dv l * 10 ^ r.length < 10 ^ l.length * 10 ^ r.length:=Nat.mul_lt_mul_of_pos_right hL (pow10_pos _)
      have hRP:dv r * 10 ^ l.length < 10 ^ l.length * 10 ^ r.length:=by
        rw [Nat.mul_comm (10 ^ l.length)];exact Nat.mul_lt_mul_of_pos_right hR (pow10_pos _)
      simp only [pilB]
      by_cases e:a=c
      · subst e
        rw [if_pos rfl]
        have hr2:r=[]∨dv r % 10≠0:=by
          cases r with
          | nil=>exact .inl rfl
          | cons d r2 =>
            right
            rcases h with h | h
            · cases h
            · rw [dv_cons] at h
              simp only [List.length_cons,Nat.pow_succ] at h
              rw [←Nat.mul_assoc] at h
              omega
        rw [ih r hl' hr' hr2]
        generalize dv l * 10 ^ r.length=x at *
        generalize dv r * 10 ^ l.length=y at *
        omega
      · rw [if_neg e]
        have hne:a.toNat≠c.toNat:=fun x=>e (UInt8.toNat_inj.1 x)
        simp only [decide_eq_true_eq]
        generalize dv l * 10 ^ r.length=x at *
        generalize dv r * 10 ^ l.length=y at *
        generalize 10 ^ l.length * 10 ^ r.length=z at *
        constructor
        · intro hlt
          have:(a.toNat - 48) * z + z≤(c.toNat - 48) * z:=by
            have h1:(a.toNat - 48) + 1≤c.toNat - 48:=by omega
            calc (a.toNat - 48) * z + z=((a.toNat - 48) + 1) * z:=by rw [Nat.add_mul];omega
              _≤_:=Nat.mul_le_mul_right _ h1
          omega
        · intro hlt
          by_cases h2:a.toNat < c.toNat
          · exact h2
          · exfalso
            have:(c.toNat - 48) * z + z≤(a.toNat - 48) * z:=by
              have h1:(c.toNat - 48) + 1≤a.toNat - 48:=by omega
              calc (c.toNat - 48) * z + z=((c.toNat - 48) + 1) * z:=by rw [Nat.add_mul];omega
                _≤_:=Nat.mul_le_mul_right _ h1
            omega
theorem lsh_digits {N k:Nat} (hN:N≠0) (hk:1≤k):numD (N * 2 ^ k) + (if N * 10 ^ numD (5 ^ k) < 5 ^ k * 10 ^ numD N then 1 else 0)=numD N + lcD k:=by
  have hm:=pow5_numD k hk
  have h1:=numD_lt N
  have h2:=numD_le N hN
  have h3:=numD_lt (5 ^ k)
  have h4:=numD_le (5 ^ k) (pow5_ne k)
  have hd:=numD_pos1 hN
  have h5:(0:Nat) < 5 ^ k:=Nat.pow_pos (by decide)
  have e25:2 ^ k * 5 ^ k=10 ^ k:=by rw [←Nat.mul_pow]
  unfold lcD
  generalize hmm:numD (5 ^ k)=m at *
  generalize hdd:numD N=d at *
  have key:N * 10 ^ m < 5 ^ k * 10 ^ d↔N * 2 ^ k < 10 ^ (d + (k - m)):=by
    have a1:N * 2 ^ k * (5 ^ k * 10 ^ m)=N * 10 ^ m * 10 ^ k:=by
      rw [←e25,Nat.mul_assoc,←Nat.mul_assoc (2 ^ k),Nat.mul_comm (2 ^ k * 5 ^ k),Nat.mul_assoc]
    have a2:10 ^ (d + (k - m)) * (5 ^ k * 10 ^ m)=5 ^ k * 10 ^ d * 10 ^ k:=by
      rw [Nat.mul_left_comm,←Nat.pow_add,Nat.mul_assoc,←Nat.pow_add]
      congr 2;omega
    have hp:0 < 5 ^ k * 10 ^ m:=Nat.mul_pos h5 (pow10_pos m)
    rw [show (N * 2 ^ k < 10 ^ (d + (k - m)))↔(N * 2 ^ k * (5 ^ k * 10 ^ m) < 10 ^ (d + (k - m)) * (5 ^ k * 10 ^ m)) from (Nat.mul_lt_mul_right hp).symm,a1,a2]
    exact (Nat.mul_lt_mul_right (pow10_pos k)).symm
  have up:N * 2 ^ k < 10 ^ (d + (k - m) + 1):=by
    have b1:2 ^ k * 10 ^ (m - 1)≤10 ^ k:=by rw [←e25];exact Nat.mul_le_mul_left _ h4
    have b2:10 ^ k=10 ^ (k - m + 1) * 10 ^ (m - 1):=by rw [←Nat.pow_add];congr 1;omega
    rw [b2] at b1
    have b3:=Nat.le_of_mul_le_mul_right b1 (pow10_pos (m - 1))
    calc N * 2 ^ k < 10 ^ d * 2 ^ k:=Nat.mul_lt_mul_of_pos_right h1 (Nat.pow_pos (by decide))
      _≤10 ^ d * 10 ^ (k - m + 1):=Nat.mul_le_mul_left _ b3
      _=_:=by rw [←Nat.pow_add];congr 1
  have lo:10 ^ (d - 1 + (k - m))≤N * 2 ^ k:=by
    have b1:10 ^ k≤2 ^ k * 10 ^ m:=by rw [←e25];exact Nat.mul_le_mul_left _ (Nat.le_of_lt h3)
    have b2:10 ^ k=10 ^ (k - m) * 10 ^ m:=by rw [←Nat.pow_add];congr 1;omega
    rw [b2] at b1
    have b3:=Nat.le_of_mul_le_mul_right b1 (pow10_pos m)
    rw [Nat.pow_add]
    exact Nat.mul_le_mul h2 b3
  by_cases hc:N * 10 ^ m < 5 ^ k * 10 ^ d
  · rw [if_pos hc]
    have h6:=key.1 hc
    have:=numD_eq (n:=N * 2 ^ k) (m:=d - 1 + (k - m)) lo (by rw [show d - 1 + (k - m) + 1=d + (k - m) by omega];exact h6)
    omega
  · rw [if_neg hc]
    have h6:¬N * 2 ^ k < 10 ^ (d + (k - m)):=fun x=>hc (key.2 x)
    have:=numD_eq (n:=N * 2 ^ k) (m:=d + (k - m)) (by omega) up
    omega
end Go.Proofs.YtfkecmlmnhbmoaaGreatDoor
namespace Go.Proofs.YtfkecmlmnhbmoaaGreatDoor
open Go Go.RowKit
theorem pilB_nil_r (l:By):pilB l []=false:=by cases l<;>rfl
theorem pilB_cons (a c:UInt8) (l r:By):pilB (a::l) (c::r)=if a=c then pilB l r else decide (a.toNat < c.toNat):=rfl
theorem u8_neq {a c:UInt8} (h:¬a=c):((a.toNat:Int) != (c.toNat:Int))=true:=by
  simp only [bne_iff_ne,ne_eq]
  intro e
  exact h (UInt8.toNat_inj.1 (by omega))
theorem drewN_add (w:World) (m n:Nat):(w.drewN m).drewN n=w.drewN (m + n):=by simp [World.drewN,Nat.add_assoc]
set_option maxRecDepth 100000 in
set_option maxHeartbeats 40000000 in
theorem pil_any (w:World) (b:Nat) (A:By) (nd:Nat) (dp:Int) (neg tr:Bool) (hD:DecAt w b A nd dp neg tr) (hnd:nd≤800) (cap:Nat) (hcap:nd≤cap) (s:ByteArray) (r:By) (hs:s.data.toList=r) (hs2:s.size≤1000) :
    Calls Tryz.prog 208 #[.slice (some ⟨b,0,none⟩) nd cap,.string s] w fun e w'=>e=.returned (.bool (pilB (A.take nd) r))∧∃ m,w'=w.drewN m:=by
  have HD:=Lib.hid hD
  have h800:=hD.1
  clear hD
  generalize hR:pilB (A.take nd) r=R
  have HR:=Lib.hid hR;clear hR
  have Hs:=Lib.hid hs;clear hs
  go_enter Tryz.func208,Tryz.ntmps208
  go_wp2_with fail
  go_loopg [4,5] r.length (fun g t4 t5 wr=>∃ pl l' , g=l'.length∧t4=.bool false∧t5=.int .i64 ((pl:By).length:Nat)∧r=pl ++ l'∧pl.length≤nd∧pilB ((A.take nd).drop pl.length) l'=R∧∃ m,wr=w.drewN m)
  case atStart=>exact ⟨[],r,rfl,rfl,rfl,rfl,by simp,by simpa using HR.out,0,rfl⟩
  case round =>
    obtain ⟨pl,l',hg,rfl,rfl,hr,hpl,hP,m,hw⟩:=hrel
    have HD2:=Lib.hid (show DecAt wr b A nd dp neg tr by rw [hw];exact HD.out.drewN m)
    have Hw:=Lib.hid hw;clear hw
    have HP:=Lib.hid hP;clear hP
    have Hg:=Lib.hid hg;clear hg
    have Hr:=Lib.hid hr
    have hsl:s.data.toList=pl ++ l':=by rw [Hs.out,hr]
    clear hr
    cases l' with
    | nil =>
      have hlt:¬pl.length < s.size:=by have:=congrArg List.length hsl;simp at this;omega
      have Hsl:=Lib.hid hsl;clear hsl
      go_wp2_with fail
      go_ret
      have e:R=false:=by rw [←HP.out,pilB_nil_r]
      rw [e]
      exact ⟨rfl,_,Hw.out⟩
    | cons c l2 =>
      obtain ⟨hlt,hc,hd,hc0,hc1⟩:=at_byte hsl
      have Hsl:=Lib.hid hsl;clear hsl
      by_cases hn:pl.length < nd
      · obtain ⟨a,ha,cd⟩:=HD2.out.digE (i:=pl.length) (by omega)
        have hdr:(A.take nd).drop pl.length=a::(A.take nd).drop (pl.length + 1):=by
          rw [List.drop_eq_getElem_cons (by simp;omega)]
          congr 1
          rw [←ha];simp [List.getD_eq_getElem?_getD];rw [List.getElem?_eq_getElem (by omega)];rfl
        have HP2:=Lib.hid (HP.out)
        have HP3:=Lib.hid (show pilB (a::(A.take nd).drop (pl.length + 1)) (c::l2)=R by rw [←hdr];exact HP2.out)
        clear hdr HP2
        have Ha:=Lib.hid ha;clear ha
        by_cases e:a=c
        · subst e
          go_wp2_with fail
          go_quiet ((first|(go_at_call 42;with_reducible first|exact qaw _|exact qbw _)|(go_at_call 43;with_reducible first|exact qap _|exact qbp _)|(go_at_call 52;with_reducible first|exact qad _|exact qbd _)|(go_at_call 76;with_reducible first|exact qar _|exact qbr _)|(go_at_call 75;with_reducible first|exact qag _|exact qbg _)));go_wp2_with fail
          go_roundg l2.length
          case measure=>rw [Hg.out];simp
          case rel=>exact ⟨pl ++ [a],l2,rfl,rfl,by simp,by rw [Hr.out];simp,by simp;omega,by rw [←HP3.out,pilB_cons,if_pos rfl];simp,_,by rw [Hw.out,drewN_add]⟩
        · have hne:=u8_neq e
          have He:=Lib.hid e
          clear e
          go_wp2_with fail
          go_quiet ((first|(go_at_call 42;with_reducible first|exact qaw _|exact qbw _)|(go_at_call 43;with_reducible first|exact qap _|exact qbp _)|(go_at_call 52;with_reducible first|exact qad _|exact qbd _)|(go_at_call 76;with_reducible first|exact qar _|exact qbr _)|(go_at_call 75;with_reducible first|exact qag _|exact qbg _)));go_wp2_with fail
          go_quiet ((first|(go_at_call 42;with_reducible first|exact qaw _|exact qbw _)|(go_at_call 43;with_reducible first|exact qap _|exact qbp _)|(go_at_call 52;with_reducible first|exact qad _|exact qbd _)|(go_at_call 76;with_reducible first|exact qar _|exact qbr _)|(go_at_call 75;with_reducible first|exact qag _|exact qbg _)));go_wp2_with fail
          go_ret
          have e:R=decide (a.toNat < c.toNat):=by rw [←HP3.out,pilB_cons,if_neg He.out]
          rw [e]
          exact ⟨rfl,_,by rw [Hw.out,drewN_add,drewN_add]⟩
      · have e0:pl.length=nd:=by omega
        have Hn0:=Lib.hid e0
        clear e0
        go_wp2_with fail
        go_ret
        have e:R=true:=by
          rw [←HP.out,Hn0.out,List.drop_of_length_le (by simp;omega)];rfl
        rw [e]
        exact ⟨rfl,_,Hw.out⟩
end Go.Proofs.YtfkecmlmnhbmoaaGreatDoor
namespace Go.Proofs.YtfkecmlmnhbmoaaGreatDoor
open Go Go.RowKit
theorem scan_dig {c:UInt8} {l:By} {d p a:Int} {r:Int × Int × Int} (h:numScan (c::l) d p a=some r):46≤c.toNat∧c.toNat≤57:=by
  rcases scan_cons h with ⟨h1,h2,_⟩ | ⟨h1,_⟩<;>omega
theorem numOk_parts {l:By} (h:numOk l):∃ (pre:By) (c:UInt8) (l1:By) (d a:Int),l=pre ++ c::l1∧(pre=[]∨pre=[43]∨pre=[45])∧numStrip l=c::l1∧numScan (c::l1) 0 0 0=some (d,1,a)∧1≤d∧d≤60∧a≤14:=by
  obtain ⟨d,a,h1,h2,h3,h4⟩:=h
  cases l with
  | nil=>simp [numStrip,numScan] at h1
  | cons c l =>
    by_cases hs:(c.toNat:Int) == 43∨(c.toNat:Int) == 45
    · have e:numStrip (c::l)=l:=by simp only [numStrip];rw [if_pos hs]
      rw [e] at h1
      cases l with
      | nil=>simp [numScan] at h1
      | cons c2 l2 =>
        refine ⟨[c],c2,l2,d,a,rfl,?_,e,h1,h2,h3,h4⟩
        right
        rcases hs with hs | hs
        · left;congr 1;apply UInt8.toNat_inj.1;simp at hs;have:(43:UInt8).toNat=43:=rfl;omega
        · right;congr 1;apply UInt8.toNat_inj.1;simp at hs;have:(45:UInt8).toNat=45:=rfl;omega
    · have e:numStrip (c::l)=c::l:=by simp only [numStrip];rw [if_neg hs]
      rw [e] at h1
      exact ⟨[],c,l,d,a,rfl,.inl rfl,e,h1,h2,h3,h4⟩
theorem low_bits:∀ n:Nat,n < 58→46≤n→(bits BinOp.or IntKind.u8 (n:Int) 32 == 120)=false∧(bits BinOp.or IntKind.u8 (n:Int) 32 == 101)=false:=by decide
set_option maxRecDepth 100000 in
set_option maxHeartbeats 40000000 in
theorem low_any (w:World) (n:Int):Calls Tryz.prog 158 #[.int .u8 n] w fun e w'=>e=.returned (.int .u8 (bits BinOp.or IntKind.u8 n 32))∧w'=w:=by
  go_enter Tryz.func158,Tryz.ntmps158
  go_wp2_with fail
  go_ret
  exact ⟨rfl,rfl⟩
set_option maxRecDepth 100000 in
set_option maxHeartbeats 40000000 in
theorem cpl_zero (w:World) (s:ByteArray) (c:UInt8) (l:By) (hs:s.data.toList=c::l) (hc1:46≤c.toNat) (hc2:c.toNat≤57) (hs2:s.size≤1000) (t:ByteArray) (ht:t.data.toList=[105,110,102,105,110,105,116,121]) :
    Calls Tryz.prog 196 #[.string s,.string t] w fun e w'=>e=.returned (.int .i64 0)∧w'=w:=by
  obtain ⟨hlt,hcc,hd,hc0,_⟩:=at_byte (pre:=[]) (by simpa using hs)
  simp only [List.length_nil] at hlt hcc hd
  have Hs:=Lib.hid hs;clear hs
  obtain ⟨tlt,tcc,td,_,_⟩:=at_byte (pre:=[]) (l:=[110,102,105,110,105,116,121]) (c:=105) (by simpa using ht)
  simp only [List.length_nil] at tlt tcc td
  have tsz:t.size=8:=by have:=congrArg List.length ht;simpa using this
  have Ht:=Lib.hid ht;clear ht
  have hb1:((c.toNat:Int) != 105)=true:=by simp;omega
  go_enter Tryz.func196,Tryz.ntmps196
  go_wp2_with fail
  all_goals
    go_loopg [6] 0 (fun g t6 wr=>t6=.int .i64 0∧w=wr)
    case atStart=>exact ⟨rfl,rfl⟩
    case round =>
      obtain ⟨rfl,rfl⟩:=hrel
      go_wp2_with fail
      go_ret
      exact ⟨rfl,rfl⟩
theorem bytes_drop1 (s:ByteArray):(s.extract 1 s.size).data.toList=s.data.toList.drop 1:=by
  simp
  rw [List.take_of_length_le (by simp)]
set_option maxRecDepth 100000 in
set_option maxHeartbeats 40000000 in
theorem special_any (w:World) (s:ByteArray) (l:By) (hs:s.data.toList=l) (hok:numOk l) (hs2:s.size≤1000) :
    Calls Tryz.prog 142 #[.string s] w fun e w'=>e=.returned (.tuple #[.float .f64 0,.int .i64 0,.bool false])∧w'=w:=by
  obtain ⟨pre,c,l1,d,a,rfl,hp,_,hsc,_⟩:=numOk_parts hok
  obtain ⟨hc1,hc2⟩:=scan_dig hsc
  clear hsc hok
  rcases hp with rfl | rfl | rfl
  · obtain ⟨hlt,hcc,hd,hc0,_⟩:=at_byte (pre:=[]) (by simpa using hs)
    simp only [List.length_nil] at hlt hcc hd
    have h1:((s.size:Int) == 0)=false:=beq_eq_false_iff_ne.2 (by omega)
    have b1:((c.toNat:Int) == 43)=false:=by simp;omega
    have b2:((c.toNat:Int) == 45)=false:=by simp;omega
    have b3:((c.toNat:Int) == 105)=false:=by simp;omega
    have b4:((c.toNat:Int) == 73)=false:=by simp;omega
    have b5:((c.toNat:Int) == 110)=false:=by simp;omega
    have b6:((c.toNat:Int) == 78)=false:=by simp;omega
    have Hs:=Lib.hid hs;clear hs
    go_enter Tryz.func142,Tryz.ntmps142
    go_wp2_with fail
    go_ret3
    exact ⟨rfl,rfl⟩
  all_goals
    obtain ⟨hlt,hcc,hd,hc0,_⟩:=at_byte (pre:=[]) (by simpa using hs)
    simp only [List.length_nil] at hlt hcc hd
    have h1:((s.size:Int) == 0)=false:=beq_eq_false_iff_ne.2 (by omega)
    have hsz:1≤s.size:=by omega
    have Hs:=Lib.hid hs
    clear hs
    go_enter Tryz.func142,Tryz.ntmps142
    have hx:(s.extract 1 s.size).data.toList=c::l1:=by rw [bytes_drop1,Hs.out];rfl
    have hx2:(s.extract 1 s.size).size≤1000:=by rw [ByteArray.size_extract];omega
    obtain ⟨s2,hs2'⟩:∃ s2,s2=s.extract 1 s.size:=⟨_,rfl⟩
    rw [←hs2'] at hx hx2
    have hs3:s.extract 1 s.size=s2:=hs2'.symm
    clear hs2'
    have Hx:=Lib.hid hx;clear hx
    go_wp2_with fail
    refine (cpl_zero _ s2 c l1 Hx.out hc1 hc2 hx2 _ rfl).mono ?_
    rintro e w1 ⟨rfl,hw⟩
    subst w1
    go_wp2_with fail
    go_ret3
    exact ⟨rfl,rfl⟩
end Go.Proofs.YtfkecmlmnhbmoaaGreatDoor
namespace Go.Proofs.YtfkecmlmnhbmoaaGreatDoor
open Go Go.RowKit
def BalI (l r:By) (T:Nat) (i:Nat) (j:Nat) (esc:Bool) (rest:By):Prop :=
  ∃ pre,pre ++ rest=40::l∧i=pre.length∧((pre=[]∧j=0∧esc=false∧∃ s,balF false l 1=some (s,r)∧T=s.length + 1)∨(1≤j∧j≤i∧∃ s,balF esc rest j=some (s,r)∧i + s.length=T))
theorem bal_cons {esc:Bool} {c:UInt8} {rest s r:By} {j i T:Nat} {l:By} {pre:By} (h:balF esc (c::rest) j=some (s,r)) (hp:pre ++ c::rest=40::l) (hi:i=pre.length) (hT:i + s.length=T) (hj:1≤j) (hji:j≤i) :
    (esc=true→BalI l r T (i + 1) j false rest)∧(esc=false→((c.toNat:Int)=92→BalI l r T (i + 1) j true rest)∧((c.toNat:Int)=40→BalI l r T (i + 1) (j + 1) false rest)∧((c.toNat:Int)=41→(j=1→i=T)∧(j≠1→BalI l r T (i + 1) (j - 1) false rest))∧((c.toNat:Int)≠92→(c.toNat:Int)≠40→(c.toNat:Int)≠41→BalI l r T (i + 1) j false rest)):=by
  have hp2:(pre ++ [c]) ++ rest=40::l:=by simpa using hp
  have hi2:i + 1=(pre ++ [c]).length:=by simp [hi]
  have key:∀ {esc':Bool} {j':Nat},1≤j'→j'≤i + 1→(balF esc' rest j').map (fun q=>(c::q.1,q.2))=some (s,r)→BalI l r T (i + 1) j' esc' rest:=by
    intro esc' j' hj' hj2 hm
    cases hb:balF esc' rest j' with
    | none=>rw [hb] at hm;simp at hm
    | some q =>
      obtain ⟨s2,r2⟩:=q
      rw [hb] at hm
      simp at hm
      obtain ⟨rfl,rfl⟩:=hm
      exact ⟨pre ++ [c],hp2,hi2,.inr ⟨hj',hj2,s2,hb,by simp at hT;omega⟩⟩
  constructor
  · intro e;subst e
    simp only [balF] at h
    exact key hj (by omega) h
  · intro e;subst e
    refine ⟨fun hc=>?_,fun hc=>?_,fun hc=>?_,fun h1 h2 h3=>?_⟩
    · simp only [balF,hc,beq_self_eq_true,if_true] at h
      exact key hj (by omega) h
    · simp only [balF,hc] at h
      exact key (by omega) (by omega) (by simpa using h)
    · simp only [balF,hc] at h
      constructor
      · intro e;subst e
        simp at h
        obtain ⟨rfl,_⟩:=h
        simpa using hT
      · intro e
        exact key (by omega) (by omega) (by simpa [e] using h)
    · have e1:((c.toNat:Int) == 92)=false:=by simpa using h1
      have e2:((c.toNat:Int) == 40)=false:=by simpa using h2
      have e3:((c.toNat:Int) == 41)=false:=by simpa using h3
      simp only [balF,e1,e2,e3,Bool.false_eq_true,if_false] at h
      exact key hj (by omega) h
set_option maxRecDepth 100000 in
set_option maxHeartbeats 40000000 in
theorem bal_any (l s r:By) (h:balF false l 1=some (s,r)) (hl:l.length≤1000000000) (w:World):Calls Tryz.prog 135 #[.string (bs (40::l))] w fun e w'=>e=.returned (.int .i64 (s.length + 1:Nat))∧w'=w:=by
  obtain ⟨T,hT⟩:∃ T,T=s.length + 1:=⟨_,rfl⟩
  rw [←hT]
  have HT:=Lib.hid hT
  have Hh:=Lib.hid h
  clear hT h
  obtain ⟨z,hz⟩:∃ z,z=bs (40::l):=⟨_,rfl⟩
  rw [←hz]
  have hzs:z.size=l.length + 1:=by rw [hz,bs_size];simp
  have Hz:=Lib.hid hz
  clear hz
  go_enter Tryz.func135,Tryz.ntmps135
  go_wp2_with fail
  go_loopg [3,4,5] (l.length + 1) (fun g t3 t4 t5 wr=>∃ (i j:Nat) (esc:Bool) (rest:By),g=rest.length∧t3=.int .i64 j∧t4=.bool esc∧t5=.int .i64 i∧wr=w∧BalI l r T i j esc rest)
  case atStart=>exact ⟨0,0,false,40::l,rfl,rfl,rfl,rfl,rfl,[],rfl,rfl,.inl ⟨rfl,rfl,rfl,s,Hh.out,HT.out⟩⟩
  case round =>
    obtain ⟨i,j,esc,rest,hg,rfl,rfl,rfl,rfl,pre,hp,hi,hcase⟩:=hrel
    cases rest with
    | nil =>
      exfalso
      rcases hcase with ⟨rfl,_⟩ | ⟨_,_,s2,hb,_⟩
      · simp at hp
      · cases esc<;>simp [balF] at hb
    | cons c rest =>
      obtain ⟨hk,hget⟩:=bs_at (l:=40::l) (pre:=pre) (post:=rest) (c:=c) hp.symm
      rw [←Hz.out] at hk
      have hget2:z[pre.length]'hk=c:=by simp only [Hz.out];exact hget
      rw [←hi] at hk
      have hget3:z[i]'hk=c:=by simp only [hi];exact hget2
      have hilt:i≤1000000000:=by omega
      have Hg:=Lib.hid hg
      rcases hcase with ⟨hp0,rfl,rfl,s2,hb,hT2⟩ | ⟨hj,hji,s2,hb,hT2⟩
      · subst hp0
        simp at hp
        obtain ⟨rfl,rfl⟩:=hp
        obtain rfl:i=0:=hi
        have HB:=Lib.hid hb
        have HT2:=Lib.hid hT2
        clear hget hget2 hb hT2 hg hzs
        go_wp2_with fail
        go_roundg rest.length
        case measure=>rw [Hg.out];simp
        case rel=>exact ⟨1,1,false,rest,rfl,rfl,rfl,rfl,rfl,[40],rfl,rfl,.inr ⟨Nat.le_refl _,Nat.le_refl _,s2,HB.out,by rw [HT2.out];omega⟩⟩
      · have HC := Lib.hid (bal_cons hb hp hi hT2 hj hji)
        clear hget hget2 hb hT2 hg hzs hp hi
        cases esc
        · rcases Bool.eq_false_or_eq_true ((c.toNat:Int) == 92) with h92 | h92
          · go_wp2_with fail
            go_roundg rest.length
            case measure=>rw [Hg.out];simp
            case rel=>exact ⟨i + 1,j,true,rest,rfl,rfl,rfl,rfl,rfl,(HC.out.2 (by trivial)).1 (by simpa using h92)⟩
          · rcases Bool.eq_false_or_eq_true ((c.toNat:Int) == 40) with h40 | h40
            · have h41:((c.toNat:Int) == 41)=false:=by simp at h40 ⊢;omega
              have hj0:¬((j:Int) + 1=0):=by omega
              go_wp2_with fail
              go_roundg rest.length
              case measure=>rw [Hg.out];simp
              case rel=>exact ⟨i + 1,j + 1,false,rest,rfl,rfl,rfl,rfl,rfl,(HC.out.2 (by trivial)).2.1 (by simpa using h40)⟩
            · rcases Bool.eq_false_or_eq_true ((c.toNat:Int) == 41) with h41 | h41
              · by_cases hj1:j=1
                · subst hj1
                  have hiT:=((HC.out.2 (by trivial)).2.2.1 (by simpa using h41)).1 rfl
                  subst hiT
                  go_wp2_with fail
                  go_ret
                  exact ⟨rfl,rfl⟩
                · have hj0:¬((j:Int) - 1=0):=by omega
                  go_wp2_with fail
                  go_roundg rest.length
                  case measure=>rw [Hg.out];simp
                  case rel=>exact ⟨i + 1,j - 1,false,rest,rfl,by congr 1;omega,rfl,rfl,rfl,((HC.out.2 (by trivial)).2.2.1 (by simpa using h41)).2 hj1⟩
              · have hj0:¬((j:Int)=0):=by omega
                go_wp2_with fail
                go_roundg rest.length
                case measure=>rw [Hg.out];simp
                case rel=>exact ⟨i + 1,j,false,rest,rfl,rfl,rfl,rfl,rfl,(HC.out.2 (by trivial)).2.2.2 (by simpa using h92) (by simpa using h40) (by simpa using h41)⟩
        · go_wp2_with fail
          go_roundg rest.length
          case measure=>rw [Hg.out];simp
          case rel=>exact ⟨i + 1,j,false,rest,rfl,rfl,rfl,rfl,rfl,HC.out.1 (by trivial)⟩
end Go.Proofs.YtfkecmlmnhbmoaaGreatDoor
