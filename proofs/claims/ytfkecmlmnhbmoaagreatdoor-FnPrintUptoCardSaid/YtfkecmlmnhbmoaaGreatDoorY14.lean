/- The texts F6 F7 F8 F9 P7 of the workbench, laid together. -/
import Derived.Test.YtfkecmlmnhbmoaaGreatDoorProg
import Derived.WalkKit
import Derived.WalkLawsBesides
import Derived.WalkSpells
import Derived.BigQuiet
import Derived.BigRegion
import Derived.Deep.QuietTactic
import Derived.Deep.RegionHeld3
import Derived.Deep.LoopGhost
import Derived.StillTailTactics
import Derived.Lib.Hide
import Derived.Laws.EntriesVeiled
import Derived.Test.YtfkecmlmnhbmoaaGreatDoorY9
import Derived.Test.YtfkecmlmnhbmoaaGreatDoorY13
set_option linter.unusedVariables false
set_option linter.unusedSimpArgs false
namespace Go.Proofs.YtfkecmlmnhbmoaaGreatDoor
open Go Go.RowKit
theorem dv_cons_aux:∀ (l:By) (n:Nat),l.foldl (fun n c=>10 * n + (c.toNat - 48)) n=n * 10 ^ l.length + dv l:=by
 intro l
 induction l with
 | nil=>intro n;simp [dv]
 | cons c l ih =>
  intro n
  simp only [List.foldl_cons,dv,List.length_cons]
  rw [ih,ih,Nat.pow_succ]
  have e:(10 * n + (c.toNat - 48)) * 10 ^ l.length=n * (10 ^ l.length * 10) + (10 * 0 + (c.toNat - 48)) * 10 ^ l.length:=by
   rw [Nat.add_mul,Nat.mul_comm 10 n,Nat.mul_assoc,Nat.mul_comm 10];simp
  rw [e];omega
theorem dv_cons (c:UInt8) (l:By):dv (c::l)=(c.toNat - 48) * 10 ^ l.length + dv l:=by
 have:=dv_cons_aux l (c.toNat - 48)
 simp only [dv,List.foldl_cons] at this ⊢
 simpa using this
theorem isDs_cons {c:UInt8} {l:By} : isDs (c::l)↔(48≤c.toNat∧c.toNat≤57)∧isDs l:=by
 unfold isDs
 simp
theorem dv_lt':∀ (l:By),isDs l→dv l < 10 ^ l.length:=by
 intro l h
 have:=dv_lt l.length l (Nat.le_refl _) (by simpa using h)
 simpa using this
def digF:Nat→Nat→By
 | 0,_=>[]
 | f + 1,n=>if n=0 then [] else digF f (n / 10) ++ [UInt8.ofNat (n % 10 + 48)]
theorem digF_spec:∀ (f n:Nat),numD n≤f→dv (digF f n)=n∧isDs (digF f n)∧(digF f n).length=numD n:=by
 intro f
 induction f with
 | zero =>
  intro n h
  by_cases h0:n=0
  ·subst h0;simp [digF,dv,isDs,numD_zero]
  ·have:=numD_pos1 h0;omega
 | succ f ih =>
  intro n h
  by_cases h0:n=0
  ·subst h0;simp [digF,dv,isDs,numD_zero]
  ·have h1:=numD_pos h0
   obtain ⟨a,b,c⟩:=ih (n / 10) (by omega)
   simp only [digF]
   rw [if_neg h0]
   refine ⟨?_,isDs_dig b (by omega),by simp [c,h1]⟩
   rw [dv_dig (by omega),a];omega
def lcS (k:Nat):ByteArray:=⟨(digF 60 (5 ^ k)).toArray⟩
def lcD (k:Nat):Nat:=k + 1 - numD (5 ^ k)
theorem pow5_lt (k:Nat) (hk:1≤k):5 ^ k < 10 ^ k:=Nat.pow_lt_pow_left (by decide) (by omega)
theorem pow5_numD (k:Nat) (hk:1≤k):1≤numD (5 ^ k)∧numD (5 ^ k)≤k:=⟨numD_pos1 (pow5_ne k),numD_le_of (pow5_lt k hk)⟩
def pilB:By→By→Bool
 | _,[]=>false
 | [],_::_=>true
 | a::l,c::r=>if a=c then pilB l r else decide (a.toNat < c.toNat)
theorem pilB_spec:∀ (l r:By),isDs l→isDs r→(r=[]∨dv r % 10≠0)→(pilB l r=true↔dv l * 10 ^ r.length < dv r * 10 ^ l.length):=by
 intro l
 induction l with
 | nil =>
  intro r _ hr h
  cases r with
  | nil=>simp [pilB,dv]
  | cons c r =>
   simp only [pilB]
   have:dv (c::r)≠0:=by rcases h with h | h;cases h;omega
   constructor
   ·intro _;simp [dv] at this ⊢;omega
   ·intro _;trivial
 | cons a l ih =>
  intro r hl hr h
  obtain ⟨ha,hl'⟩:=isDs_cons.1 hl
  cases r with
  | nil=>simp [pilB,dv]
  | cons c r =>
   obtain ⟨hc,hr'⟩:=isDs_cons.1 hr
   have hL:=dv_lt' l hl'
   have hR:=dv_lt' r hr'
   rw [dv_cons,dv_cons,List.length_cons,List.length_cons,Nat.pow_succ,Nat.pow_succ]
   have e1:∀ (x D P Q:Nat),(x * P + D) * (Q * 10)=10 * (x * (P * Q)) + 10 * (D * Q):=by
    intro x D P Q
    rw [Nat.add_mul,Nat.mul_assoc x P,←Nat.mul_assoc P Q 10,←Nat.mul_assoc D Q 10,←Nat.mul_assoc x];omega
   rw [e1 (a.toNat - 48) (dv l) (10 ^ l.length) (10 ^ r.length),e1 (c.toNat - 48) (dv r) (10 ^ r.length) (10 ^ l.length),Nat.mul_comm (10 ^ r.length) (10 ^ l.length)]
   have hLQ:dv l * 10 ^ r.length < 10 ^ l.length * 10 ^ r.length:=Nat.mul_lt_mul_of_pos_right hL (pow10_pos _)
   have hRP:dv r * 10 ^ l.length < 10 ^ l.length * 10 ^ r.length:=by
    rw [Nat.mul_comm (10 ^ l.length)];exact Nat.mul_lt_mul_of_pos_right hR (pow10_pos _)
   simp only [pilB]
   by_cases e:a=c
   ·subst e
    rw [if_pos rfl]
    have hr2:r=[]∨dv r % 10≠0:=by
     cases r with
     | nil=>exact .inl rfl
     | cons d r2 =>
      right
      rcases h with h | h
      ·cases h
      ·rw [dv_cons] at h
       simp only [List.length_cons,Nat.pow_succ] at h
       rw [←Nat.mul_assoc] at h
       omega
    rw [ih r hl' hr' hr2]
    generalize dv l * 10 ^ r.length=x at *
    generalize dv r * 10 ^ l.length=y at *
    omega
   ·rw [if_neg e]
    have hne:a.toNat≠c.toNat:=fun x=>e (UInt8.toNat_inj.1 x)
    simp only [decide_eq_true_eq]
    generalize dv l * 10 ^ r.length=x at *
    generalize dv r * 10 ^ l.length=y at *
    generalize 10 ^ l.length * 10 ^ r.length=z at *
    constructor
    ·intro hlt
     have:(a.toNat - 48) * z + z≤(c.toNat - 48) * z:=by
      have h1:(a.toNat - 48) + 1≤c.toNat - 48:=by omega
      calc (a.toNat - 48) * z + z=((a.toNat - 48) + 1) * z:=by rw [Nat.add_mul];omega
       _≤_:=Nat.mul_le_mul_right _ h1
     omega
    ·intro hlt
     by_cases h2:a.toNat < c.toNat
     ·exact h2
     ·exfalso
      have:(c.toNat - 48) * z + z≤(a.toNat - 48) * z:=by
       have h1:(c.toNat - 48) + 1≤a.toNat - 48:=by omega
       calc (c.toNat - 48) * z + z=((c.toNat - 48) + 1) * z:=by rw [Nat.add_mul];omega
        _≤_:=Nat.mul_le_mul_right _ h1
      omega
theorem lsh_digits {N k:Nat} (hN:N≠0) (hk:1≤k):numD (N * 2 ^ k) + (if N * 10 ^ numD (5 ^ k) < 5 ^ k * 10 ^ numD N then 1 else 0)=numD N + lcD k:=by
 have hm:=pow5_numD k hk
 have h1:=numD_lt N
 have h2:=numD_le N hN
 have h3:=numD_lt (5 ^ k)
 have h4:=numD_le (5 ^ k) (pow5_ne k)
 have hd:=numD_pos1 hN
 have h5:(0:Nat) < 5 ^ k:=Nat.pow_pos (by decide)
 have e25:2 ^ k * 5 ^ k=10 ^ k:=by rw [←Nat.mul_pow]
 unfold lcD
 generalize hmm:numD (5 ^ k)=m at *
 generalize hdd:numD N=d at *
 have key:N * 10 ^ m < 5 ^ k * 10 ^ d↔N * 2 ^ k < 10 ^ (d + (k - m)):=by
  have a1:N * 2 ^ k * (5 ^ k * 10 ^ m)=N * 10 ^ m * 10 ^ k:=by
   rw [←e25,Nat.mul_assoc,←Nat.mul_assoc (2 ^ k),Nat.mul_comm (2 ^ k * 5 ^ k),Nat.mul_assoc]
  have a2:10 ^ (d + (k - m)) * (5 ^ k * 10 ^ m)=5 ^ k * 10 ^ d * 10 ^ k:=by
   rw [Nat.mul_left_comm,←Nat.pow_add,Nat.mul_assoc,←Nat.pow_add]
   congr 2;omega
  have hp:0 < 5 ^ k * 10 ^ m:=Nat.mul_pos h5 (pow10_pos m)
  rw [show (N * 2 ^ k < 10 ^ (d + (k - m)))↔(N * 2 ^ k * (5 ^ k * 10 ^ m) < 10 ^ (d + (k - m)) * (5 ^ k * 10 ^ m)) from (Nat.mul_lt_mul_right hp).symm,a1,a2]
  exact (Nat.mul_lt_mul_right (pow10_pos k)).symm
 have up:N * 2 ^ k < 10 ^ (d + (k - m) + 1):=by
  have b1:2 ^ k * 10 ^ (m - 1)≤10 ^ k:=by rw [←e25];exact Nat.mul_le_mul_left _ h4
  have b2:10 ^ k=10 ^ (k - m + 1) * 10 ^ (m - 1):=by rw [←Nat.pow_add];congr 1;omega
  rw [b2] at b1
  have b3:=Nat.le_of_mul_le_mul_right b1 (pow10_pos (m - 1))
  calc N * 2 ^ k < 10 ^ d * 2 ^ k:=Nat.mul_lt_mul_of_pos_right h1 (Nat.pow_pos (by decide))
   _≤10 ^ d * 10 ^ (k - m + 1):=Nat.mul_le_mul_left _ b3
   _=_:=by rw [←Nat.pow_add];congr 1
 have lo:10 ^ (d - 1 + (k - m))≤N * 2 ^ k:=by
  have b1:10 ^ k≤2 ^ k * 10 ^ m:=by rw [←e25];exact Nat.mul_le_mul_left _ (Nat.le_of_lt h3)
  have b2:10 ^ k=10 ^ (k - m) * 10 ^ m:=by rw [←Nat.pow_add];congr 1;omega
  rw [b2] at b1
  have b3:=Nat.le_of_mul_le_mul_right b1 (pow10_pos m)
  rw [Nat.pow_add]
  exact Nat.mul_le_mul h2 b3
 by_cases hc:N * 10 ^ m < 5 ^ k * 10 ^ d
 ·rw [if_pos hc]
  have h6:=key.1 hc
  have:=numD_eq (n:=N * 2 ^ k) (m:=d - 1 + (k - m)) lo (by rw [show d - 1 + (k - m) + 1=d + (k - m) by omega];exact h6)
  omega
 ·rw [if_neg hc]
  have h6:¬N * 2 ^ k < 10 ^ (d + (k - m)):=fun x=>hc (key.2 x)
  have:=numD_eq (n:=N * 2 ^ k) (m:=d + (k - m)) (by omega) up
  omega
end Go.Proofs.YtfkecmlmnhbmoaaGreatDoor
namespace Go.Proofs.YtfkecmlmnhbmoaaGreatDoor
open Go Go.RowKit
theorem pilB_nil_r (l:By):pilB l []=false:=by cases l<;>rfl
theorem pilB_cons (a c:UInt8) (l r:By):pilB (a::l) (c::r)=if a=c then pilB l r else decide (a.toNat < c.toNat):=rfl
theorem u8_neq {a c:UInt8} (h:¬a=c):((a.toNat:Int) != (c.toNat:Int))=true:=by
 simp only [bne_iff_ne,ne_eq]
 intro e
 exact h (UInt8.toNat_inj.1 (by omega))
theorem drewN_add (w:World) (m n:Nat):(w.drewN m).drewN n=w.drewN (m + n):=by simp [World.drewN,Nat.add_assoc]
set_option maxRecDepth 100000 in
set_option maxHeartbeats 40000000 in
theorem pil_any (w:World) (b:Nat) (A:By) (nd:Nat) (dp:Int) (neg tr:Bool) (hD:DecAt w b A nd dp neg tr) (hnd:nd≤800) (cap:Nat) (hcap:nd≤cap) (s:ByteArray) (r:By) (hs:s.data.toList=r) (hs2:s.size≤1000) :
  Calls Tryz.prog 208 #[.slice (some ⟨b,0,none⟩) nd cap,.string s] w fun e w'=>e=.returned (.bool (pilB (A.take nd) r))∧∃ m,w'=w.drewN m:=by
 have HD:=Lib.hid hD
 have h800:=hD.1
 clear hD
 generalize hR:pilB (A.take nd) r=R
 have HR:=Lib.hid hR;clear hR
 have Hs:=Lib.hid hs;clear hs
 go_enter Tryz.func208,Tryz.ntmps208
 go_wp2_with fail
 go_loopg [4,5] r.length (fun g t4 t5 wr=>∃ pl l' , g=l'.length∧t4=.bool false∧t5=.int .i64 ((pl:By).length:Nat)∧r=pl ++ l'∧pl.length≤nd∧pilB ((A.take nd).drop pl.length) l'=R∧∃ m,wr=w.drewN m)
 case atStart=>exact ⟨[],r,rfl,rfl,rfl,rfl,by simp,by simpa using HR.out,0,rfl⟩
 case round =>
  obtain ⟨pl,l',hg,rfl,rfl,hr,hpl,hP,m,hw⟩:=hrel
  have HD2:=Lib.hid (show DecAt wr b A nd dp neg tr by rw [hw];exact HD.out.drewN m)
  have Hw:=Lib.hid hw;clear hw
  have HP:=Lib.hid hP;clear hP
  have Hg:=Lib.hid hg;clear hg
  have Hr:=Lib.hid hr
  have hsl:s.data.toList=pl ++ l':=by rw [Hs.out,hr]
  clear hr
  cases l' with
  | nil =>
   have hlt:¬pl.length < s.size:=by have:=congrArg List.length hsl;simp at this;omega
   have Hsl:=Lib.hid hsl;clear hsl
   go_wp2_with fail
   go_ret
   have e:R=false:=by rw [←HP.out,pilB_nil_r]
   rw [e]
   exact ⟨rfl,_,Hw.out⟩
  | cons c l2 =>
   obtain ⟨hlt,hc,hd,hc0,hc1⟩:=at_byte hsl
   have Hsl:=Lib.hid hsl;clear hsl
   by_cases hn:pl.length < nd
   ·obtain ⟨a,ha,cd⟩:=HD2.out.digE (i:=pl.length) (by omega)
    have hdr:(A.take nd).drop pl.length=a::(A.take nd).drop (pl.length + 1):=by
     rw [List.drop_eq_getElem_cons (by simp;omega)]
     congr 1
     rw [←ha];simp [List.getD_eq_getElem?_getD];rw [List.getElem?_eq_getElem (by omega)];rfl
    have HP2:=Lib.hid (HP.out)
    have HP3:=Lib.hid (show pilB (a::(A.take nd).drop (pl.length + 1)) (c::l2)=R by rw [←hdr];exact HP2.out)
    clear hdr HP2
    have Ha:=Lib.hid ha;clear ha
    by_cases e:a=c
    ·subst e
     go_wp2_with fail
     go_quiet ((first|(go_at_call 42;with_reducible first|exact qaw _|exact qbw _)|(go_at_call 43;with_reducible first|exact qap _|exact qbp _)|(go_at_call 52;with_reducible first|exact qad _|exact qbd _)|(go_at_call 76;with_reducible first|exact qar _|exact qbr _)|(go_at_call 75;with_reducible first|exact qag _|exact qbg _)));go_wp2_with fail
     go_roundg l2.length
     case measure=>rw [Hg.out];simp
     case rel=>exact ⟨pl ++ [a],l2,rfl,rfl,by simp,by rw [Hr.out];simp,by simp;omega,by rw [←HP3.out,pilB_cons,if_pos rfl];simp,_,by rw [Hw.out,drewN_add]⟩
    ·have hne:=u8_neq e
     have He:=Lib.hid e
     clear e
     go_wp2_with fail
     go_quiet ((first|(go_at_call 42;with_reducible first|exact qaw _|exact qbw _)|(go_at_call 43;with_reducible first|exact qap _|exact qbp _)|(go_at_call 52;with_reducible first|exact qad _|exact qbd _)|(go_at_call 76;with_reducible first|exact qar _|exact qbr _)|(go_at_call 75;with_reducible first|exact qag _|exact qbg _)));go_wp2_with fail
     go_quiet ((first|(go_at_call 42;with_reducible first|exact qaw _|exact qbw _)|(go_at_call 43;with_reducible first|exact qap _|exact qbp _)|(go_at_call 52;with_reducible first|exact qad _|exact qbd _)|(go_at_call 76;with_reducible first|exact qar _|exact qbr _)|(go_at_call 75;with_reducible first|exact qag _|exact qbg _)));go_wp2_with fail
     go_ret
     have e:R=decide (a.toNat < c.toNat):=by rw [←HP3.out,pilB_cons,if_neg He.out]
     rw [e]
     exact ⟨rfl,_,by rw [Hw.out,drewN_add,drewN_add]⟩
   ·have e0:pl.length=nd:=by omega
    have Hn0:=Lib.hid e0
    clear e0
    go_wp2_with fail
    go_ret
    have e:R=true:=by
     rw [←HP.out,Hn0.out,List.drop_of_length_le (by simp;omega)];rfl
    rw [e]
    exact ⟨rfl,_,Hw.out⟩
end Go.Proofs.YtfkecmlmnhbmoaaGreatDoor
namespace Go.Proofs.YtfkecmlmnhbmoaaGreatDoor
open Go Go.RowKit
def LcAt (w:World) (k:Nat):Prop:=∃ lb lo cap,w.cell? ⟨22,0,none⟩=some (.slice (some ⟨lb,lo,none⟩) 61 cap)∧w.cell? ⟨lb,lo + k * 2,none⟩=some (.int .i64 (lcD k))∧w.cell? ⟨lb,lo + k * 2 + 1,none⟩=some (.string (lcS k))
theorem run_slice188 (w:World) (b n:Nat) (h:n≤800):(Instr.sliceAt 188 (.pointer (some ⟨b,0,none⟩)) (some (.int .i64 0)) (some (.int .i64 n)) none).run Tryz.prog w=.ok (.slice (some ⟨b,0,none⟩) n 800) w:=by
 have hal:Tryz.prog.arrayLen 188=800:=by kernel_rfl
 have ht:Tryz.prog.underlying 188=some (.array (Tryz.prog.arrayLen 188) (Tryz.prog.elem 188)):=by kernel_rfl
 have hsz:(sizeOf (Tryz.prog.elem 188)).run Tryz.prog w=.ok 1 w:=by kernel_rfl
 rw [run_sliceAt_array_lh w 188 ⟨b,0,none⟩ ht .i64 .i64 0 n (by omega) (by omega) (by rw [hal];omega),hsz]
 simp [Result.andThen,slicedAt,hal,Addr.add]
theorem mul_step {X a d k n s q r O e:Nat} (hX:X=((10 * a + d) * 2 ^ k + n) * 10 ^ e + O) (hs:s=n + d * 2 ^ k) (hq:q=s / 10) (hr:r=s % 10):X=(a * 2 ^ k + q) * 10 ^ (e + 1) + (r * 10 ^ e + O):=by
 have h1:=Nat.div_add_mod s 10
 rw [←hq,←hr] at h1
 rw [hX,Nat.pow_succ]
 have e1:(10 * a + d) * 2 ^ k + n=10 * (a * 2 ^ k + q) + r:=by
  rw [Nat.add_mul,Nat.mul_assoc]
  generalize d * 2 ^ k=y at *
  omega
 rw [e1,Nat.add_mul,Nat.mul_comm 10 (a * 2 ^ k + q),Nat.mul_assoc,Nat.mul_comm 10]
 omega
theorem mul_small {d k n s:Nat} (hd:d≤9) (hn:n < 2 ^ k) (hs:s=n + d * 2 ^ k) (hk:2 ^ k≤1152921504606846976):s / 10 < 2 ^ k∧s≤11529215046068469759:=by
 have h1:d * 2 ^ k≤9 * 2 ^ k:=Nat.mul_le_mul_right _ hd
 generalize 2 ^ k=p at *
 omega
theorem set_last {P T:By} {w:Nat} (h:P.length=w) (h1:1≤w) (x:UInt8):(P ++ T).set (w - 1) x=P.take (w - 1) ++ (x::T):=by
 rw [List.set_append_left _ _ (by omega),List.set_eq_take_append_cons_drop,if_pos (by omega),show w - 1 + 1=P.length by omega,List.drop_length]
 simp
theorem DecAt.putL {w:World} {b:Nat} {P T:By} {wv nd:Nat} {dp:Int} {neg tr:Bool} (h:DecAt w b (P ++ T) nd dp neg tr) (hp:P.length=wv) (h1:1≤wv) (h8:wv≤800) {q:Nat} (h9:q≤9) :
  DecAt (w.setCell ⟨b,wv - 1,none⟩ (.int .u8 ((q:Int) + 48))) b (P.take (wv - 1) ++ (UInt8.ofNat (q + 48)::T)) nd dp neg tr:=by
 have:=h.setDig (i:=wv - 1) (by omega) (UInt8.ofNat (q + 48))
 rw [set_last hp h1,dig_of h9] at this
 simpa using this
theorem dv_dcons {O:By} {q:Nat} (h9:q≤9):dv (UInt8.ofNat (q + 48)::O)=q * 10 ^ O.length + dv O:=by rw [dv_cons,dig_of h9,Nat.add_sub_cancel]
theorem isDs_dcons {O:By} {q:Nat} (h:isDs O) (h9:q≤9):isDs (UInt8.ofNat (q + 48)::O):=isDs_cons.2 ⟨by rw [dig_of h9];omega,h⟩
theorem pow5_mod (k:Nat):5 ^ k % 10≠0:=by
 intro h
 have h2:2 ∣ 5 ^ k:=Nat.dvd_trans (by decide:(2:Nat) ∣ 10) (Nat.dvd_of_mod_eq_zero h)
 have h3:5 ^ k % 2=1:=by rw [Nat.pow_mod];simp
 omega
set_option maxRecDepth 100000 in
set_option maxHeartbeats 40000000 in
theorem lsh_at (w:World) (b:Nat) (A:By) (nd:Nat) (dp:Int) (neg tr:Bool) (k:Nat) (hk1:1≤k) (hk2:k≤60) (hLc:LcAt w k) (hD:DecAt w b A nd dp neg tr) (hds:isDs (A.take nd)) (hnd:nd + k≤799) (hn1:1≤nd) (hN0:dv (A.take nd)≠0) (hN:numD (dv (A.take nd))=nd) (hdp1:-100000≤dp) (hdp2:dp≤100000) :
  Calls Tryz.prog 172 #[.pointer (some ⟨b,0,none⟩),.int .u64 k] w fun e w'=>e=.returned (.tuple #[])∧DecN w' b (lsN k (dv (A.take nd))) (lsP k (dv (A.take nd)) dp) neg tr∧w.grownBy w' (some b):=by
 have hA800:=hD.1
 generalize hR1:lsN k (dv (A.take nd))=R1
 generalize hR2:lsP k (dv (A.take nd)) dp=R2
 have HR1:=Lib.hid hR1;clear hR1
 have HR2:=Lib.hid hR2;clear hR2
 obtain ⟨c0,c1,c2,c3,cf⟩:=hD.cells
 obtain ⟨lb,lo,lcap,cl0,cl1,cl2⟩:=hLc
 have hlen:nd≤A.length:=by have:=hD.1;omega
 have h60:2 ^ k≤1152921504606846976:=Nat.le_trans (Nat.pow_le_pow_right (by decide) hk2) (by decide)
 have HD:=Lib.hid hD;clear hD
 have Hds:=Lib.hid hds;clear hds
 have HN0:=Lib.hid hN0;clear hN0
 have HN:=Lib.hid hN;clear hN
 have Hlen:=Lib.hid hlen;clear hlen
 have H60:=Lib.hid h60;clear h60
 obtain ⟨ld,hld⟩:∃ ld,ld=lcD k:=⟨_,rfl⟩
 rw [←hld] at cl1
 have hldk:ld≤k:=by have:=pow5_numD k hk1;unfold lcD at hld;omega
 have Hld:=Lib.hid hld;clear hld
 obtain ⟨ls,hls⟩:∃ ls,ls=lcS k:=⟨_,rfl⟩
 rw [←hls] at cl2
 have hlsL:ls.data.toList=digF 60 (5 ^ k):=by rw [hls];simp [lcS]
 have Hls:=Lib.hid hls;clear hls
 have HlsL:=Lib.hid hlsL;clear hlsL
 go_enter Tryz.func172,Tryz.ntmps172
 go_wp2_with fail
 have h5:=pow5_numD k hk1
 have hds5:=digF_spec 60 (5 ^ k) (by omega)
 have hls2:ls.size≤1000:=by have:=congrArg List.length HlsL.out;rw [hds5.2.2] at this;simp at this;omega
 have hpil:=pilB_spec (A.take nd) (digF 60 (5 ^ k)) Hds.out hds5.2.1 (.inr (by rw [hds5.1];exact pow5_mod k))
 rw [hds5.1,hds5.2.2,List.length_take,Nat.min_eq_left Hlen.out] at hpil
 have hLd:=lsh_digits (k:=k) HN0.out hk1
 rw [HN.out] at hLd
 obtain ⟨B,hB⟩:∃ B,B=pilB (A.take nd) (digF 60 (5 ^ k)):=⟨_,rfl⟩
 rw [←hB] at hpil
 rw [←Hld.out] at hLd
 have hX:∃ dl,numD (dv (A.take nd) * 2 ^ k)=nd + dl∧((B=true∧ld=dl + 1)∨(B=false∧ld=dl))∧dl≤k:=by
  have h9:nd≤numD (dv (A.take nd) * 2 ^ k):=by
   have:=numD_mono (a:=dv (A.take nd)) (b:=dv (A.take nd) * 2 ^ k) (Nat.le_mul_of_pos_right _ (Nat.pow_pos (by decide)))
   rw [HN.out] at this;exact this
  refine ⟨numD (dv (A.take nd) * 2 ^ k) - nd,by omega,?_,?_⟩
  ·cases B with
   | true=>left;rw [if_pos (hpil.1 rfl)] at hLd;exact ⟨rfl,by omega⟩
   | false=>right;rw [if_neg (fun x=>by cases hpil.2 x)] at hLd;exact ⟨rfl,by omega⟩
  ·split at hLd<;>omega
 clear hpil hLd h5 hds5
 obtain ⟨dl,hXd,hBd,hdlk⟩:=hX
 have HXd:=Lib.hid hXd;clear hXd
 have HB:=Lib.hid hB;clear hB
 have hsl:=fun w'=>run_slice188 w' b nd (by omega)
 go_quiet ((go_at_call 208;with_reducible exact Calls.quiet_of (pil_any _ b A nd dp neg tr (HD.out.drewN _) (by omega) 800 (by omega) ls _ HlsL.out hls2)))
 rw [←HB.out]
 clear HB
 rcases hBd with ⟨rfl,hl9⟩ | ⟨rfl,hl9⟩
 all_goals
  subst ld
  go_wp2_with fail
  go_loopg [5,6,7] nd (fun g t5 t6 t7 wr=>∃ (z:Int) (i n wv:Nat) (P O:By),t5=.int .i64 z∧z=i - 1∧t6=.int .i64 wv∧t7=.int .u64 n∧g=i∧i≤nd∧P.length=wv∧wv=i + dl∧P.take i=A.take i∧isDs O∧O.length=nd - i∧dv (A.take nd) * 2 ^ k=(dv (A.take i) * 2 ^ k + n) * 10 ^ (nd - i) + dv O∧n < 2 ^ k∧DecAt wr b (P ++ (O ++ A.drop (nd + dl))) nd dp neg tr∧w.grownBy wr (some b))
  case atStart=>exact ⟨_,nd,0,nd + dl,A.take (nd + dl),[],rfl,rfl,by go_num,rfl,rfl,Nat.le_refl _,by simp;omega,rfl,by rw [List.take_take,Nat.min_eq_left (by omega)],(fun _ h=>by cases h),by simp,by simp [dv],Nat.pow_pos (by decide),by simpa using HD.out.drewN nq,gr_drewN (World.grownBy.refl _ _) _⟩
  case round =>
   clear c0 c1 c2 c3 cf cl0 cl1 cl2
   obtain ⟨z,i,n,wv,P,O,rfl,hz,rfl,rfl,hg,hi,hPl,hwv,hPt,hOd,hOl,hX,hnk,hD2,hG⟩:=hrel
   obtain ⟨c0,c1,c2,c3,cf⟩:=hD2.cells
   have Hg:=Lib.hid hg;clear hg
   have HPl:=Lib.hid hPl;clear hPl
   have HPt:=Lib.hid hPt;clear hPt
   have HOd:=Lib.hid hOd;clear hOd
   have HOl:=Lib.hid hOl;clear hOl
   have HX:=Lib.hid hX;clear hX
   have Hnk:=Lib.hid hnk;clear hnk
   have HG:=Lib.hid hG;clear hG
   cases i with
   | zero =>
    obtain rfl:z=-1:=by omega
    have hwv1:wv≤799:=by omega
    have HD2:=Lib.hid hD2;clear hD2
    have Hwv:=Lib.hid hwv;clear hwv
    clear hz
    go_wp2_with fail
    have Hg9:=Lib.hid (show n=n from rfl)
    go_loopg [6,7] n (fun g t6 t7 wr=>∃ (n wv cc:Nat) (P O:By),t6=.int .i64 wv∧t7=.int .u64 n∧g=n∧P.length=wv∧wv + cc=nd + dl∧O.length=cc∧isDs O∧dv (A.take nd) * 2 ^ k=n * 10 ^ cc + dv O∧n≤1152921504606846976∧DecAt wr b (P ++ (O ++ A.drop (nd + dl))) nd dp neg tr∧w.grownBy wr (some b))
    case atStart=>exact ⟨n,wv,nd,P,O,rfl,rfl,Hg9.out,HPl.out,by have:=Hwv.out;omega,HOl.out,HOd.out,by have:=HX.out;rw [this];simp [dv],by have:=Hnk.out;have:=H60.out;omega,HD2.out,HG.out⟩
    case round =>
     clear Hg9 Hg HPl HPt HOd HOl HX Hnk HG HD2 Hwv hwv1 hi c0 c1 c2 c3 cf
     obtain ⟨n,wv,cc,P,O,rfl,rfl,hg,hPl,hwc,hOl,hOd,hX,hnb,hD2,hG⟩:=hrel
     obtain ⟨c0,c1,c2,c3,cf⟩:=hD2.cells
     have hOlt:=dv_lt' O hOd
     rw [hOl] at hOlt
     have Hg:=Lib.hid hg;clear hg
     have HPl:=Lib.hid hPl;clear hPl
     have HOd:=Lib.hid hOd;clear hOd
     have HOl:=Lib.hid hOl;clear hOl
     have HG:=Lib.hid hG;clear hG
     by_cases hn0:0 < n
     ·have hwv2:1≤wv:=by
       have h1:10 ^ cc≤dv (A.take nd) * 2 ^ k:=by rw [hX];have:=Nat.mul_le_mul_right (10 ^ cc) hn0;omega
       have:=numD_ge_of h1
       have:=HXd.out
       omega
      have HX:=Lib.hid hX;clear hX
      have HOlt:=Lib.hid hOlt;clear hOlt
      obtain ⟨c9,hc9,cw⟩:=hD2.digE (i:=wv - 1) (by omega)
      clear hc9
      have hwv1:wv≤799:=by omega
      have hwvi:(wv:Int) - 1=((wv - 1:Nat):Int):=by omega
      have HD2:=Lib.hid hD2;clear hD2
      have Hwc:=Lib.hid hwc;clear hwc
      obtain ⟨q,hq⟩:∃ q,q=n / 10:=⟨_,rfl⟩
      obtain ⟨r,hr⟩:∃ r,r=n % 10:=⟨_,rfl⟩
      have hqi:(n:Int) / 10=(q:Int):=by omega
      have hri:(n:Int) - 10 * (q:Int)=(r:Int):=by omega
      have hr9:r≤9:=by omega
      have hq9:q≤1152921504606846976:=by omega
      have Hqn:=Lib.hid (show q < n by omega)
      have Hq:=Lib.hid hq;clear hq
      have Hr:=Lib.hid hr;clear hr
      go_wp2_with fail
      go_roundg q
      case measure=>rw [Hg.out];exact Hqn.out
      case rel =>
       refine ⟨q,wv - 1,cc + 1,P.take (wv - 1),UInt8.ofNat (r + 48)::O,rfl,rfl,rfl,by rw [List.length_take,HPl.out];omega,by have:=Hwc.out;omega,by rw [List.length_cons,HOl.out],isDs_dcons HOd.out hr9,?_,hq9,HD2.out.putL HPl.out hwv2 (by omega) hr9,(by repeat (first | exact HG.out | apply gr_set | apply gr_drewN | apply gr_drew | apply gr_alloc))⟩
       have h2:=mul_step (X:=dv (A.take nd) * 2 ^ k) (a:=0) (d:=0) (k:=k) (n:=n) (e:=cc) (O:=dv O) (by rw [HX.out];simp) (by simp) Hq.out Hr.out
       rw [h2,dv_dcons hr9,HOl.out];simp
     ·obtain rfl:n=0:=by omega
      have hcc:cc=nd + dl:=by
       have h1:dv (A.take nd) * 2 ^ k < 10 ^ cc:=by rw [hX];omega
       have:=numD_le_of h1
       have:=HXd.out
       omega
      obtain rfl:wv=0:=by omega
      obtain rfl:P=[]:=List.eq_nil_of_length_eq_zero HPl.out
      have hX2:dv (A.take nd) * 2 ^ k=dv O:=by rw [hX];simp
      have HX:=Lib.hid hX;clear hX
      have HX2:=Lib.hid hX2;clear hX2
      have HOlt:=Lib.hid hOlt;clear hOlt
      have HD2:=Lib.hid hD2;clear hD2
      have Hwc:=Lib.hid hwc;clear hwc
      subst hcc
      have h800:¬800≤nd + dl:=by omega
      go_wp2_with fail
      refine (trim_any _ b (O ++ A.drop (nd + dl)) (nd + dl) (dp + dl) neg tr (by simpa using (HD2.out.setNd (nd + dl)).setDp (dp + dl)) (by omega)).mono ?_
      rintro e w9 ⟨rfl,hD9,hg9⟩
      go_wp2_with fail
      go_end0
      have hQ1:(O ++ A.drop (nd + dl)).take (nd + dl)=O:=by rw [←HOl.out];simp
      have hX0:dv (A.take nd) * 2 ^ k≠0:=Nat.mul_ne_zero HN0.out (pow2_ne k)
      have hT:=trimN_dv (nd + dl) (O ++ A.drop (nd + dl)) (by rw [List.length_append,List.length_drop,HOl.out,hA800];omega) (by rw [hQ1];exact HOd.out) (by rw [hQ1,←HX2.out];exact hX0) (by rw [hQ1,←HX2.out];exact HXd.out)
      rw [hQ1,←HX2.out,show strip (dv (A.take nd) * 2 ^ k)=R1 from HR1.out] at hT
      have hR0:R1≠0:=by rw [←HR1.out];exact strip_pos hX0
      have hR9:numD R1≠0:=by have:=numD_pos1 hR0;omega
      rw [hT.1] at hD9
      have hdp9:dpN (numD R1) (dp + dl)=R2:=by unfold dpN;rw [if_neg hR9,←HR2.out];unfold lsP;rw [HXd.out,HN.out];omega
      rw [hdp9] at hD9
      refine ⟨rfl,⟨?_,_,hD9,?_,?_⟩,(gr_set (gr_set HG.out _ _) _ _).trans hg9⟩
      ·rw [←hT.1];have:=trimN_le (O ++ A.drop (nd + dl)) (nd + dl);omega
      ·rw [←hT.1];exact isDs_take (n:=nd + dl) (by rw [hQ1];exact HOd.out) (trimN_le _ _)
      ·rw [←hT.1];exact hT.2
   | succ i =>
    obtain rfl:z=(i:Int):=by omega
    clear hz
    obtain ⟨c,hc,cd⟩:=hD2.digE (i:=i) (by omega)
    obtain ⟨c9,hc9,cw⟩:=hD2.digE (i:=wv - 1) (by omega)
    clear hc9
    have hwv1:wv≤799:=by omega
    have hwv2:1≤wv:=by omega
    have hwvi:(wv:Int) - 1=((wv - 1:Nat):Int):=by omega
    have HD2:=Lib.hid hD2;clear hD2
    have Hwv:=Lib.hid hwv;clear hwv
    have hc5:A.getD i 0=c:=by
     rw [←hc]
     have h1:(P.take (i + 1)).getD i 0=(A.take (i + 1)).getD i 0:=by rw [HPt.out]
     have h2:∀ (L:By),(L.take (i + 1)).getD i 0=L.getD i 0:=by intro L;simp [List.getD_eq_getElem?_getD]
     rw [h2,h2] at h1
     rw [←h1]
     simp only [List.getD_eq_getElem?_getD]
     rw [List.getElem?_append_left (by rw [HPl.out,Hwv.out];omega)]
    have hc2:=isDs_at Hds.out (r:=i) (by omega) Hlen.out
    rw [hc5] at hc2
    obtain ⟨hc3,hc4⟩:=hc2
    have Hc:=Lib.hid hc;clear hc
    have Hc5:=Lib.hid hc5;clear hc5
    obtain ⟨s,hs⟩:∃ s,s=n + (c.toNat - 48) * 2 ^ k:=⟨_,rfl⟩
    have hsm:=mul_small (by omega) Hnk.out hs H60.out
    have hx:IntKind.u64.wrap ((n:Int) + IntKind.u64.wrap (((c.toNat:Int) - 48) * 2 ^ k))=(s:Int):=by
     rw [show ((c.toNat:Int) - 48)=((c.toNat - 48:Nat):Int) by omega,int_pow2,←Int.natCast_mul,IntWalk.u64_in (((c.toNat - 48) * 2 ^ k:Nat):Int) (by omega),IntWalk.u64_in _ (by omega),hs];rfl
    obtain ⟨q,hq⟩:∃ q,q=s / 10:=⟨_,rfl⟩
    obtain ⟨r,hr⟩:∃ r,r=s % 10:=⟨_,rfl⟩
    have hqi:(s:Int) / 10=(q:Int):=by omega
    have hri:(s:Int) - 10 * (q:Int)=(r:Int):=by omega
    have hr9:r≤9:=by omega
    have hs9:=hsm.2
    have hq9:q≤1152921504606846976:=by omega
    have hq2:q < 2 ^ k:=by rw [hq];exact hsm.1
    clear hsm
    have Hs:=Lib.hid hs;clear hs
    have Hq:=Lib.hid hq;clear hq
    have Hr:=Lib.hid hr;clear hr
    have Hq2:=Lib.hid hq2;clear hq2
    go_wp2_with fail
    go_roundg i
    case measure=>rw [Hg.out];omega
    case rel =>
     refine ⟨_,i,q,wv - 1,P.take (wv - 1),UInt8.ofNat (r + 48)::O,rfl,rfl,rfl,rfl,rfl,by omega,by rw [List.length_take,HPl.out];omega,by have:=Hwv.out;omega,?_,isDs_dcons HOd.out hr9,by rw [List.length_cons,HOl.out];omega,?_,Hq2.out,HD2.out.putL HPl.out hwv2 (by omega) hr9,(by repeat (first | exact HG.out | apply gr_set | apply gr_drewN | apply gr_drew | apply gr_alloc))⟩
     ·have h1:=congrArg (List.take i) HPt.out
      have hw9:i≤wv - 1:=by have:=Hwv.out;omega
      simp only [List.take_take,Nat.min_eq_left (Nat.le_succ i)] at h1
      simp only [List.take_take,Nat.min_eq_left hw9,h1]
     ·have h1:=HX.out
      rw [dv_take (by have:=Hlen.out;omega),Hc5.out] at h1
      have h2:=mul_step h1 Hs.out Hq.out Hr.out
      rw [h2,dv_dcons hr9,HOl.out,show nd - (i + 1) + 1=nd - i by omega]
end Go.Proofs.YtfkecmlmnhbmoaaGreatDoor
namespace Go.Proofs.YtfkecmlmnhbmoaaGreatDoor
open Go Go.RowKit
theorem DecN.heap {w w':World} {b N:Nat} {dp:Int} {neg tr:Bool} (h:DecN w b N dp neg tr) (e:w'.heap[b]?=w.heap[b]?):DecN w' b N dp neg tr:=by
 obtain ⟨h1,A,h3,h4,h5⟩:=h
 exact ⟨h1,A,h3.of_heap e,h4,h5⟩
set_option maxRecDepth 100000 in
set_option maxHeartbeats 40000000 in
theorem shl_any (w:World) (b N:Nat) (dp:Int) (neg tr:Bool) (k:Nat) (hk1:1≤k) (hk2:k≤60) (hLc:LcAt w k) (hD:DecN w b N dp neg tr) (hnd:numD N + k≤799) (hN:N≠0) (hdp1:-100000≤dp) (hdp2:dp≤100000) :
  Calls Tryz.prog 123 #[.pointer (some ⟨b,0,none⟩),.int .i64 k] w fun e w'=>e=.returned (.tuple #[])∧DecN w' b (lsN k N) (lsP k N dp) neg tr∧w.grownBy w' (some b):=by
 obtain ⟨h800,A,hD,hds,hdv⟩:=hD
 obtain ⟨nd,hnn⟩:∃ nd,nd=numD N:=⟨_,rfl⟩
 rw [←hnn] at hD hds hdv hnd h800
 have hn1:1≤nd:=by have:=numD_pos1 hN;omega
 have hc:=(lsh_at w b A nd dp neg tr k hk1 hk2 hLc hD hds hnd hn1 (by rw [hdv];exact hN) (by rw [hdv];exact hnn.symm) hdp1 hdp2)
 rw [hdv] at hc
 obtain ⟨c0,c1,c2,c3,cf⟩:=hD.cells
 have Hc:=Lib.hid hc
 clear hD hds hdv hc hnn hLc
 generalize lsN k N=R1 at Hc ⊢
 generalize lsP k N dp=R2 at Hc ⊢
 go_enter Tryz.func123,Tryz.ntmps123
 go_wp2_with fail
 go_loopg [1] 0 (fun g t1 wr=>t1=.int .i64 k∧w=wr)
 case atStart=>exact ⟨rfl,rfl⟩
 case round =>
  obtain ⟨rfl,rfl⟩:=hrel
  go_wp2_with fail
  refine Hc.out.mono ?_
  rintro e w' ⟨rfl,hD,hG⟩
  have HD:=Lib.hid hD;clear hD
  have HG:=Lib.hid hG;clear hG
  go_wp2_with fail
  go_end0
  exact ⟨rfl,HD.out,HG.out⟩
set_option maxRecDepth 100000 in
set_option maxHeartbeats 40000000 in
theorem shr_any (w:World) (b N:Nat) (dp:Int) (neg tr:Bool) (k:Nat) (hk1:1≤k) (hk2:k≤60) (hD:DecN w b N dp neg tr) (hnd:numD N + k≤799) (hN:N≠0) (hdp1:-100000≤dp) (hdp2:dp≤100000) :
  Calls Tryz.prog 123 #[.pointer (some ⟨b,0,none⟩),.int .i64 (-(k:Int))] w fun e w'=>e=.returned (.tuple #[])∧DecN w' b (rsN k N) (rsP k N dp) neg tr∧w.grownBy w' (some b):=by
 obtain ⟨h800,A,hD,hds,hdv⟩:=hD
 obtain ⟨nd,hnn⟩:∃ nd,nd=numD N:=⟨_,rfl⟩
 rw [←hnn] at hD hds hdv hnd h800
 have hn1:1≤nd:=by have:=numD_pos1 hN;omega
 have hc:=(rsh_at w b A nd dp neg tr k hk1 hk2 hD hds hnd hn1 (by rw [hdv];exact hN) (by rw [hdv];exact hnn.symm) hdp1 hdp2)
 rw [hdv] at hc
 obtain ⟨c0,c1,c2,c3,cf⟩:=hD.cells
 have Hc:=Lib.hid hc
 clear hD hds hdv hc hnn
 generalize rsN k N=R1 at Hc ⊢
 generalize rsP k N dp=R2 at Hc ⊢
 obtain ⟨z,hz⟩:∃ z:Int,z=-(k:Int):=⟨_,rfl⟩
 have hz1:z < 0:=by omega
 have hz2:-60≤z:=by omega
 have hz3:-z=(k:Int):=by omega
 rw [←hz]
 clear hz
 go_enter Tryz.func123,Tryz.ntmps123
 go_wp2_with fail
 go_loopg [1] 0 (fun g t1 wr=>t1=.int .i64 z∧w=wr)
 case atStart=>exact ⟨rfl,rfl⟩
 case round =>
  obtain ⟨rfl,rfl⟩:=hrel
  go_wp2_with fail
  refine Hc.out.mono ?_
  rintro e w' ⟨rfl,hD,hG⟩
  have HD:=Lib.hid hD;clear hD
  have HG:=Lib.hid hG;clear hG
  go_wp2_with fail
  go_end0
  exact ⟨rfl,HD.out,HG.out⟩
def pdN (N r:Nat):Nat:=if r≤numD N then N / 10 ^ (numD N - r) else N * 10 ^ (r - numD N)
theorem pd_eq {A:By} {N r:Nat} (hl:numD N≤A.length) (hd:isDs (A.take (numD N))) (hv:dv (A.take (numD N))=N):pd A (numD N) r=pdN N r:=by
 unfold pdN
 by_cases h:r≤numD N
 ·rw [if_pos h]
  have h1:=pd_add hl hd r (numD N - r)
  rw [show r + (numD N - r)=numD N by omega,pd_nd,hv] at h1
  exact (Nat.div_eq_of_lt_le (by rw [Nat.mul_comm];exact h1.1) (by rw [Nat.mul_comm];exact h1.2)).symm
 ·rw [if_neg h]
  unfold pd
  rw [if_neg h,hv]
theorem pdN_zero (N:Nat):pdN N 0=0:=by
 unfold pdN
 rw [if_pos (Nat.zero_le _)]
 exact Nat.div_eq_of_lt (by simpa using numD_lt N)
def ruB (N r:Nat) (tr:Bool):Bool:=decide (r < numD N) && (if pdN N (r + 1) % 10=5∧r + 1=numD N then tr || decide (pdN N r % 2=1) else decide (5≤pdN N (r + 1) % 10))
theorem ruB_ge {N r:Nat} {tr:Bool} (h:¬r < numD N):ruB N r tr=false:=by unfold ruB;simp [h]
theorem pdN_digit {A:By} {N r:Nat} (hl:numD N≤A.length) (hd:isDs (A.take (numD N))) (hv:dv (A.take (numD N))=N) (hr:r < numD N):pdN N (r + 1)=10 * pdN N r + ((A.getD r 0).toNat - 48)∧48≤(A.getD r 0).toNat∧(A.getD r 0).toNat≤57:=by
 rw [←pd_eq hl hd hv,←pd_eq hl hd hv]
 exact ⟨pd_lt hr hl,isDs_at hd hr hl⟩
set_option maxRecDepth 100000 in
set_option maxHeartbeats 40000000 in
theorem sru_any (w:World) (b N:Nat) (dp:Int) (neg tr:Bool) (hD:DecN w b N dp neg tr) (r:Nat) (hr:r≤100000) :
  Calls Tryz.prog 174 #[.pointer (some ⟨b,0,none⟩),.int .i64 r] w fun e w'=>e=.returned (.bool (ruB N r tr))∧∃ m,w'=w.drewN m:=by
 obtain ⟨h800,A,hD,hds,hdv⟩:=hD
 generalize hR:ruB N r tr=R
 obtain ⟨c0,c1,c2,c3,cf⟩:=hD.cells
 obtain ⟨nd,hnn⟩:∃ nd,nd=numD N:=⟨_,rfl⟩
 rw [←hnn] at c0 h800
 have HR:=Lib.hid hR;clear hR
 by_cases hlt:r < nd
 ·have hd1:=pdN_digit (r:=r) (by have:=hD.1;omega) hds hdv (by omega)
  obtain ⟨c,hc,cd⟩:=hD.digE (i:=r) (by omega)
  rw [hc] at hd1
  obtain ⟨hd1,hc1,hc2⟩:=hd1
  have hmd:pdN N (r + 1) % 10=c.toNat - 48:=by omega
  have hn0:¬((r:Int) < 0):=by omega
  by_cases h5:c.toNat=53∧r + 1=nd
  ·obtain ⟨h5,h6⟩:=h5
   rw [h5] at cd
   have hR2:R=(tr || decide (pdN N r % 2=1)):=by rw [←HR.out];unfold ruB;rw [if_pos ⟨by omega,by omega⟩,decide_eq_true (by omega:r < numD N)];rfl
   have hb6:(((r:Int) + 1) == (nd:Int))=true:=by simp;omega
   have HR2:=Lib.hid hR2;clear hR2
   cases tr
   ·cases r with
    | zero =>
     have HD:=Lib.hid hD;clear hD
     clear hmd hd1 hc HR h6 hnn
     go_enter Tryz.func174,Tryz.ntmps174
     go_wp2_with fail
     go_ret
     rw [HR2.out]
     exact ⟨by simp [pdN_zero],0,rfl⟩
    | succ q =>
     have hd2:=pdN_digit (r:=q) (by have:=hD.1;omega) hds hdv (by omega)
     obtain ⟨c9,hc9,cd9⟩:=hD.digE (i:=q) (by omega)
     rw [hc9] at hd2
     obtain ⟨hd2,hc91,hc92⟩:=hd2
     have hR3:R=decide ((c9.toNat - 48) % 2=1):=by rw [HR2.out,Bool.false_or,hd2];congr 1;simp;omega
     obtain ⟨d9,hd9⟩:∃ d9,d9=c9.toNat - 48:=⟨_,rfl⟩
     have hd9i:(c9.toNat:Int) - 48=(d9:Int):=by omega
     rw [←hd9] at hR3
     have hd99:d9≤9:=by omega
     have HD:=Lib.hid hD;clear hD
     have HR3:=Lib.hid hR3;clear hR3
     clear hmd hd1 hd2 hc HR h6 hnn hd9 hc9
     by_cases hodd:d9 % 2=1
     ·have ho:(((d9:Int) % 2) != 0)=true:=by simp;omega
      have Hodd:=Lib.hid hodd
      clear hodd
      go_enter Tryz.func174,Tryz.ntmps174
      go_wp2_with fail
      go_ret
      rw [HR3.out]
      exact ⟨by simp [Hodd.out],0,rfl⟩
     ·have ho:(((d9:Int) % 2) != 0)=false:=by simp;omega
      have Hodd:=Lib.hid hodd
      clear hodd
      go_enter Tryz.func174,Tryz.ntmps174
      go_wp2_with fail
      go_ret
      rw [HR3.out]
      exact ⟨by simp [Hodd.out],0,rfl⟩
   ·have HD:=Lib.hid hD;clear hD
    clear hmd hd1 hc HR h6 hnn
    go_enter Tryz.func174,Tryz.ntmps174
    go_wp2_with fail
    go_ret
    rw [HR2.out]
    exact ⟨by simp,0,rfl⟩
  ·have hR2:R=decide (53≤c.toNat):=by
    rw [←HR.out];unfold ruB
    rw [if_neg (by intro x;exact h5 ⟨by omega,by omega⟩),decide_eq_true (by omega:r < numD N),hmd,Bool.true_and]
    congr 1;simp;omega
   have HR2:=Lib.hid hR2;clear hR2
   have HD:=Lib.hid hD;clear hD
   clear hmd hd1 hc HR
   by_cases h53:c.toNat=53
   ·have hb6:(((r:Int) + 1) == (nd:Int))=false:=by simp;omega
    rw [h53] at cd
    clear h5 hnn
    have H53:=Lib.hid h53
    clear h53 hc1 hc2
    go_enter Tryz.func174,Tryz.ntmps174
    go_wp2_with fail
    go_ret
    rw [HR2.out]
    exact ⟨by rw [H53.out];rfl,0,rfl⟩
   ·have hb5:((c.toNat:Int) == 53)=false:=by simp;omega
    clear h5 hnn
    have H53:=Lib.hid h53
    clear h53
    by_cases h54:53≤c.toNat
    all_goals
     go_enter Tryz.func174,Tryz.ntmps174
     go_wp2_with fail
     go_ret
     rw [HR2.out]
     exact ⟨by simp [h54];omega,0,rfl⟩
 ·have hR2:R=false:=by rw [←HR.out];exact ruB_ge (by omega)
  have hn0:¬((r:Int) < 0):=by omega
  have HR2:=Lib.hid hR2;clear hR2
  have HD:=Lib.hid hD;clear hD
  clear HR hnn
  go_enter Tryz.func174,Tryz.ntmps174
  go_wp2_with fail
  go_ret
  rw [HR2.out]
  exact ⟨rfl,0,rfl⟩
def rintN (N:Nat) (dp:Nat) (tr:Bool):Nat:=pdN N dp + if ruB N dp tr then 1 else 0
theorem pdN_small {N r:Nat} : pdN N r < 10 ^ r:=by
 unfold pdN
 have h:=numD_lt N
 by_cases hr:r≤numD N
 ·rw [if_pos hr,Nat.div_lt_iff_lt_mul (pow10_pos _),←Nat.pow_add,show r + (numD N - r)=numD N by omega];exact h
 ·rw [if_neg hr]
  calc N * 10 ^ (r - numD N) < 10 ^ numD N * 10 ^ (r - numD N):=Nat.mul_lt_mul_of_pos_right h (pow10_pos _)
   _=10 ^ r:=by rw [←Nat.pow_add];congr 1;omega
theorem pdN_ge {N r:Nat} (h:numD N≤r):pdN N (r + 1)=10 * pdN N r:=by
 unfold pdN
 rw [if_neg (by omega)]
 by_cases e:r=numD N
 ·subst e;simp;omega
 ·rw [if_neg (by omega),show r + 1 - numD N=(r - numD N) + 1 by omega,Nat.pow_succ,←Nat.mul_assoc];omega
theorem ten17 {r:Nat} (h:r≤17):10 ^ r≤100000000000000000:=Nat.le_trans (pow10_le h) (by decide)
set_option maxRecDepth 100000 in
set_option maxHeartbeats 40000000 in
theorem rint_any (w:World) (b N:Nat) (dpn:Nat) (neg tr:Bool) (hdp:dpn≤17) (hD:DecN w b N dpn neg tr) :
  Calls Tryz.prog 201 #[.pointer (some ⟨b,0,none⟩)] w fun e w'=>e=.returned (.int .u64 (rintN N dpn tr))∧∃ m,w'=w.drewN m:=by
 have HDN:=Lib.hid hD
 obtain ⟨h800,A,hD,hds,hdv⟩:=hD
 generalize hR:rintN N dpn tr=R
 obtain ⟨c0,c1,c2,c3,cf⟩:=hD.cells
 have hlen:numD N≤A.length:=by have:=hD.1;omega
 have HD:=Lib.hid hD;clear hD
 have HR:=Lib.hid hR;clear hR
 have Hlen:=Lib.hid hlen;clear hlen
 have Hds:=Lib.hid hds;clear hds
 have Hdv:=Lib.hid hdv;clear hdv
 obtain ⟨nd,hnn⟩:∃ nd,nd=numD N:=⟨_,rfl⟩
 rw [←hnn] at c0 h800
 have Hnn:=Lib.hid hnn;clear hnn
 go_enter Tryz.func201,Tryz.ntmps201
 go_wp2_with fail
 go_loopg [3,4] dpn (fun g t3 t4 wr=>∃ i n:Nat,t3=.int .i64 i∧t4=.int .u64 n∧g=dpn - i∧i≤dpn∧n=pdN N i∧(i≤nd∨i=0)∧w=wr)
 case atStart=>exact ⟨0,0,rfl,rfl,rfl,by omega,(pdN_zero N).symm,.inr rfl,rfl⟩
 case round =>
  obtain ⟨i,n,rfl,rfl,hg,hi,hn,hin,rfl⟩:=hrel
  have hn17:n≤100000000000000000:=by rw [hn];have:=pdN_small (N:=N) (r:=i);have:=ten17 (r:=i) (by omega);omega
  have Hg:=Lib.hid hg;clear hg
  have Hn:=Lib.hid hn;clear hn
  by_cases h1:i < dpn∧i < nd
  ·obtain ⟨h1,h2⟩:=h1
   obtain ⟨c,hc,cd⟩:=HD.out.digE (i:=i) (by omega)
   have hd1:=pdN_digit (r:=i) Hlen.out Hds.out Hdv.out (by have:=Hnn.out;omega)
   rw [hc] at hd1
   obtain ⟨hd1,hc1,hc2⟩:=hd1
   have Hd1:=Lib.hid hd1;clear hd1
   have Hc:=Lib.hid hc;clear hc
   clear hin
   go_wp2_with fail
   go_roundg (dpn - (i + 1))
   case measure=>rw [Hg.out];omega
   case rel=>exact ⟨i + 1,n * 10 + (c.toNat - 48),by go_num,ret_num (by omega),rfl,by omega,by rw [Hd1.out,←Hn.out];omega,.inl (by omega),rfl⟩
  ·have hin2:i=dpn∨nd≤i:=by omega
   have Hin2:=Lib.hid hin2;clear hin2
   by_cases h2:i < dpn
   ·have h3:¬i < nd:=by omega
    clear h1 hin
    go_wp2_with fail
    have Hg9:=Lib.hid (show dpn - i=dpn - i from rfl)
    go_loopg [3,4] (dpn - i) (fun g t3 t4 wr=>∃ i n:Nat,t3=.int .i64 i∧t4=.int .u64 n∧g=dpn - i∧i≤dpn∧n=pdN N i∧(i=dpn∨nd≤i)∧w=wr)
    case atStart=>exact ⟨i,n,rfl,rfl,Hg9.out,hi,Hn.out,Hin2.out,rfl⟩
    case round =>
     clear Hg9 Hg Hn Hin2 hn17 hi
     obtain ⟨i,n,rfl,rfl,hg,hi,hn,hin,rfl⟩:=hrel
     have hn17:n≤100000000000000000:=by rw [hn];have:=pdN_small (N:=N) (r:=i);have:=ten17 (r:=i) (by omega);omega
     have Hg:=Lib.hid hg;clear hg
     have Hn:=Lib.hid hn;clear hn
     by_cases h9:i < dpn
     ·have hin2:nd≤i:=by omega
      clear hin
      go_wp2_with fail
      go_roundg (dpn - (i + 1))
      case measure=>rw [Hg.out];omega
      case rel=>exact ⟨i + 1,n * 10,by go_num,by go_num,rfl,by omega,by rw [pdN_ge (by have:=Hnn.out;omega),←Hn.out];omega,.inr (by omega),rfl⟩
     ·obtain rfl:i=dpn:=by omega
      clear hin
      go_wp2_with fail
      refine (sru_any _ b N i neg tr (by exact HDN.out) i (by omega)).mono ?_
      rintro e w1 ⟨rfl,m,hw⟩
      have Hw:=Lib.hid hw;clear hw
      have hR1:=HR.out
      unfold rintN at hR1
      rcases Bool.eq_false_or_eq_true (ruB N i tr) with hru | hru
      all_goals
       rw [hru] at hR1 ⊢
       have HR1:=Lib.hid hR1;clear hR1
       go_wp2_with fail
       go_ret
       have e:R=_:=HR1.out.symm
       rw [e,Hn.out]
       exact ⟨by simp,m,Hw.out⟩
   ·clear h1 hin
    go_wp2_with fail
    have Hg9:=Lib.hid (show dpn - i=dpn - i from rfl)
    go_loopg [3,4] (dpn - i) (fun g t3 t4 wr=>∃ i n:Nat,t3=.int .i64 i∧t4=.int .u64 n∧g=dpn - i∧i≤dpn∧n=pdN N i∧(i=dpn∨nd≤i)∧w=wr)
    case atStart=>exact ⟨i,n,rfl,rfl,Hg9.out,hi,Hn.out,Hin2.out,rfl⟩
    case round =>
     clear Hg9 Hg Hn Hin2 hn17 hi
     obtain ⟨i,n,rfl,rfl,hg,hi,hn,hin,rfl⟩:=hrel
     have hn17:n≤100000000000000000:=by rw [hn];have:=pdN_small (N:=N) (r:=i);have:=ten17 (r:=i) (by omega);omega
     have Hg:=Lib.hid hg;clear hg
     have Hn:=Lib.hid hn;clear hn
     by_cases h9:i < dpn
     ·have hin2:nd≤i:=by omega
      clear hin
      go_wp2_with fail
      go_roundg (dpn - (i + 1))
      case measure=>rw [Hg.out];omega
      case rel=>exact ⟨i + 1,n * 10,by go_num,by go_num,rfl,by omega,by rw [pdN_ge (by have:=Hnn.out;omega),←Hn.out];omega,.inr (by omega),rfl⟩
     ·obtain rfl:i=dpn:=by omega
      clear hin
      go_wp2_with fail
      refine (sru_any _ b N i neg tr (by exact HDN.out) i (by omega)).mono ?_
      rintro e w1 ⟨rfl,m,hw⟩
      have Hw:=Lib.hid hw;clear hw
      have hR1:=HR.out
      unfold rintN at hR1
      rcases Bool.eq_false_or_eq_true (ruB N i tr) with hru | hru
      all_goals
       rw [hru] at hR1 ⊢
       have HR1:=Lib.hid hR1;clear hR1
       go_wp2_with fail
       go_ret
       have e:R=_:=HR1.out.symm
       rw [e,Hn.out]
       exact ⟨by simp,m,Hw.out⟩
end Go.Proofs.YtfkecmlmnhbmoaaGreatDoor
namespace Go.Proofs.YtfkecmlmnhbmoaaGreatDoor
theorem oct_split:∀ (n:Nat) (l:By) (out:Int),∃ q,l=q ++ (octM n l out).2∧(∀ c∈q,48≤(c.toNat:Int)∧(c.toNat:Int)≤55)∧∀ m:By,m.head?=(octM n l out).2.head?→octM n (q ++ m) out=((octM n l out).1,m):=by
 intro n
 induction n with
 | zero=>intro l out;exact ⟨[],rfl,by simp,fun m _=>rfl⟩
 | succ n ih =>
  intro l out
  cases l with
  | nil =>
   refine ⟨[],rfl,by simp,fun m hm=>?_⟩
   cases m with
   | nil=>rfl
   | cons c m=>simp [octM] at hm
  | cons c l =>
   simp only [octM]
   split
   ·rename_i hc
    obtain ⟨q,h1,h2,h3⟩:=ih l (8 * out + ((c.toNat:Int) - 48))
    refine ⟨c::q,by rw [List.cons_append,←h1],fun d hd=>?_,fun m hm=>?_⟩
    ·rcases List.mem_cons.1 hd with rfl | hd
     ·exact hc
     ·exact h2 d hd
    ·simp only [List.cons_append,octM,if_pos hc]
     exact h3 m hm
   ·rename_i hc
    refine ⟨[],rfl,by simp,fun m hm=>?_⟩
    cases m with
    | nil=>simp at hm
    | cons d m =>
     simp at hm;subst hm
     simp only [List.nil_append,octM,if_neg hc]
theorem esc_split (d:UInt8) (l:By):∃ q,l=q ++ (escF (d::l)).2.2∧(∀ c∈q,(c.toNat:Int)=10∨48≤(c.toNat:Int)∧(c.toNat:Int)≤55)∧∀ m:By,m.head?=(escF (d::l)).2.2.head?→escF (d::(q ++ m))=((escF (d::l)).1,(escF (d::l)).2.1,m):=by
 obtain ⟨q,h1,h2,h3⟩:=oct_split 2 l ((d.toNat:Int) - 48)
 simp only [escF]
 repeat' split
 all_goals first
  | exact ⟨[],rfl,by simp,fun m _=>rfl⟩
  | skip
 ·cases l with
  | nil =>
   refine ⟨[],rfl,by simp,fun m hm=>?_⟩
   cases m with
   | nil=>rfl
   | cons c m=>simp [esc13] at hm
  | cons e l =>
   simp only [esc13]
   split
   ·rename_i he
    refine ⟨[e],rfl,fun c hc=>?_,fun m hm=>?_⟩
    ·simp at hc;subst hc;simp at he;exact .inl he
    ·simp [esc13,he]
   ·rename_i he
    refine ⟨[],rfl,by simp,fun m hm=>?_⟩
    cases m with
    | nil=>simp at hm
    | cons c m=>simp at hm;subst hm;simp [esc13,he]
 ·refine ⟨q,h1,fun c hc=>.inr (h2 c hc),fun m hm=>?_⟩
  rw [h3 m hm]
theorem skip10_split2 (l:By):∃ q,l=q ++ skip10 l∧(∀ c∈q,(c.toNat:Int)=10)∧∀ m:By,m.head?=(skip10 l).head?→skip10 (q ++ m)=m:=by
 cases l with
 | nil =>
  refine ⟨[],rfl,by simp,fun m hm=>?_⟩
  cases m with
  | nil=>rfl
  | cons c m=>simp [skip10] at hm
 | cons c l =>
  simp only [skip10]
  split
  ·rename_i hc
   refine ⟨[c],rfl,by simpa using hc,fun m _=>(by simp [skip10,hc])⟩
  ·rename_i hc
   refine ⟨[],rfl,by simp,fun m hm=>?_⟩
   cases m with
   | nil=>simp at hm
   | cons d m=>simp at hm;subst hm;simp [skip10,hc]
end Go.Proofs.YtfkecmlmnhbmoaaGreatDoor
