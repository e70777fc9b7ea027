/- Parts F6 F7 F12 P9 P10 P11 P12 J0. -/
import Derived.Test.YtfkecmlmnhbmoaaGreatDoorW8
import Derived.Test.YtfkecmlmnhbmoaaGreatDoorW15
set_option linter.unusedVariables false
set_option linter.unusedSimpArgs false
set_option maxRecDepth 100000
set_option maxHeartbeats 40000000
namespace Go.Proofs.YtfkecmlmnhbmoaaGreatDoor
open Go Go.RowKit
theorem dv_cons_aux:∀(l:By) (n:Nat),l.foldl (fun n c=>10*n+(c.toNat-48)) n=n*10^l.length+dv l:=by
 intro l
 induction l with
 | nil=>intro n;simp[dv]
 | cons c l ih =>
  intro n;simp only[List.foldl_cons,dv,List.length_cons];rw[ih,ih,Nat.pow_succ]
  have e:(10*n+(c.toNat-48))*10^l.length=n*(10^l.length*10)+(10*0+(c.toNat-48))*10^l.length:=by
   rw[Nat.add_mul,Nat.mul_comm 10 n,Nat.mul_assoc,Nat.mul_comm 10];simp
  rw[e];omega
theorem dv_cons (c:UInt8)(l:By):dv (c::l)=(c.toNat-48)*10^l.length+dv l:=by
 have:=dv_cons_aux l (c.toNat-48);simp only[dv,List.foldl_cons]at this⊢;simpa using this
theorem isDs_cons {c:UInt8}{l:By} : isDs (c::l)↔(48≤c.toNat∧c.toNat≤57)∧isDs l:=by
 unfold isDs;simp
theorem dv_lt':∀(l:By),isDs l→dv l<10^l.length:=by
 intro l h;have:=dv_lt l.length l (Nat.le_refl _) (by simpa using h);simpa using this
def digF:Nat→Nat→By
 | 0,_=>[]
 | f+1,n=>if n=0 then [] else digF f (n/10)++[UInt8.ofNat (n%10+48)]
theorem digF_spec:∀(f n:Nat),numD n≤f→dv (digF f n)=n∧isDs (digF f n)∧(digF f n).length=numD n:=by
 intro f
 induction f with
 | zero =>
  intro n h
  by_cases h0:n=0
  ·subst h0;simp[digF,dv,isDs,numD_zero]
  ·have:=numD_pos1 h0;omega
 | succ f ih =>
  intro n h
  by_cases h0:n=0
  ·subst h0;simp[digF,dv,isDs,numD_zero]
  ·have h1:=numD_pos h0
   obtain⟨a,b,c⟩:=ih (n/10) (by omega);simp only[digF];rw[if_neg h0];refine⟨?_,isDs_dig b (by omega),by simp[c,h1]⟩;rw[dv_dig (by omega),a];omega
def lcS (k:Nat):ByteArray:=⟨(digF 60 (5^k)).toArray⟩
def lcD (k:Nat):Nat:=k+1-numD (5^k)
theorem pow5_lt (k:Nat)(hk:1≤k):5^k<10^k:=Nat.pow_lt_pow_left (by decide) (by omega)
theorem pow5_numD (k:Nat)(hk:1≤k):1≤numD (5^k)∧numD (5^k)≤k:=⟨numD_pos1 (pow5_ne k),numD_le_of (pow5_lt k hk)⟩
def pilB:By→By→Bool
 | _,[]=>false
 | [],_::_=>true
 | a::l,c::r=>if a=c then pilB l r else decide (a.toNat<c.toNat)
theorem pilB_spec:∀(l r:By),isDs l→isDs r→(r=[]∨dv r%10≠0)→(pilB l r=true↔dv l*10^r.length<dv r*10^l.length):=by
 intro l
 induction l with
 | nil =>
  intro r _ hr h
  cases r with
  | nil=>simp[pilB,dv]
  | cons c r =>
   simp only[pilB];have:dv (c::r)≠0:=by rcases h with h|h;cases h;omega
   constructor
   ·intro _;simp[dv]at this⊢;omega
   ·intro _;trivial
 | cons a l ih =>
  intro r hl hr h;obtain⟨ha,hl'⟩:=isDs_cons.1 hl
  cases r with
  | nil=>simp[pilB,dv]
  | cons c r =>
   obtain⟨hc,hr'⟩:=isDs_cons.1 hr;have hL:=dv_lt' l hl';have hR:=dv_lt' r hr';rw[dv_cons,dv_cons,List.length_cons,List.length_cons,Nat.pow_succ,Nat.pow_succ]
   have e1:∀(x D P Q:Nat),(x*P+D)*(Q*10)=10*(x*(P*Q))+10*(D*Q):=by
    intro x D P Q;rw[Nat.add_mul,Nat.mul_assoc x P,←Nat.mul_assoc P Q 10,←Nat.mul_assoc D Q 10,←Nat.mul_assoc x];omega
   rw[e1 (a.toNat-48) (dv l) (10^l.length) (10^r.length),e1 (c.toNat-48) (dv r) (10^r.length) (10^l.length),Nat.mul_comm (10^r.length) (10^l.length)];have hLQ:dv l*10^r.length<10^l.length*10^r.length:=Nat.mul_lt_mul_of_pos_right hL (pow10_pos _)
   have hRP:dv r*10^l.length<10^l.length*10^r.length:=by
    rw[Nat.mul_comm (10^l.length)];exact Nat.mul_lt_mul_of_pos_right hR (pow10_pos _)
   simp only[pilB]
   by_cases e:a=c
   ·subst e
    rw[if_pos rfl]
    have hr2:r=[]∨dv r%10≠0:=by
     cases r with
     | nil=>exact .inl rfl
     | cons d r2 =>
      right;rcases h with h|h
      ·cases h
      ·rw[dv_cons]at h
       simp only[List.length_cons,Nat.pow_succ]at h;rw[←Nat.mul_assoc]at h;omega
    rw[ih r hl' hr' hr2];generalize dv l*10^r.length=x at *;generalize dv r*10^l.length=y at *;omega
   ·rw[if_neg e]
    have hne:a.toNat≠c.toNat:=fun x=>e (UInt8.toNat_inj.1 x);simp only[decide_eq_true_eq];generalize dv l*10^r.length=x at *;generalize dv r*10^l.length=y at *;generalize 10^l.length*10^r.length=z at *
    constructor
    ·intro hlt
     have:(a.toNat-48)*z+z≤(c.toNat-48)*z:=by
      have h1:(a.toNat-48)+1≤c.toNat-48:=by omega
      calc (a.toNat-48)*z+z=((a.toNat-48)+1)*z:=by rw[Nat.add_mul];omega
       _≤_:=Nat.mul_le_mul_right _ h1
     omega
    ·intro hlt
     by_cases h2:a.toNat<c.toNat
     ·exact h2
     ·exfalso
      have:(c.toNat-48)*z+z≤(a.toNat-48)*z:=by
       have h1:(c.toNat-48)+1≤a.toNat-48:=by omega
       calc (c.toNat-48)*z+z=((c.toNat-48)+1)*z:=by rw[Nat.add_mul];omega
        _≤_:=Nat.mul_le_mul_right _ h1
      omega
theorem lsh_digits {N k:Nat}(hN:N≠0)(hk:1≤k):numD (N*2^k)+(if N*10^numD (5^k)<5^k*10^numD N then 1 else 0)=numD N+lcD k:=by
 have hm:=pow5_numD k hk;have h1:=numD_lt N;have h2:=numD_le N hN;have h3:=numD_lt (5^k);have h4:=numD_le (5^k) (pow5_ne k);have hd:=numD_pos1 hN;have h5:(0:Nat)<5^k:=Nat.pow_pos (by decide);have e25:2^k*5^k=10^k:=by rw[←Nat.mul_pow]
 unfold lcD;generalize hmm:numD (5^k)=m at *;generalize hdd:numD N=d at *
 have key:N*10^m<5^k*10^d↔N*2^k<10^(d+(k-m)):=by
  have a1:N*2^k*(5^k*10^m)=N*10^m*10^k:=by
   rw[←e25,Nat.mul_assoc,←Nat.mul_assoc (2^k),Nat.mul_comm (2^k*5^k),Nat.mul_assoc]
  have a2:10^(d+(k-m))*(5^k*10^m)=5^k*10^d*10^k:=by
   rw[Nat.mul_left_comm,←Nat.pow_add,Nat.mul_assoc,←Nat.pow_add];congr 2;omega
  have hp:0<5^k*10^m:=Nat.mul_pos h5 (pow10_pos m);rw[show (N*2^k<10^(d+(k-m)))↔(N*2^k*(5^k*10^m)<10^(d+(k-m))*(5^k*10^m)) from(Nat.mul_lt_mul_right hp).symm,a1,a2];exact(Nat.mul_lt_mul_right (pow10_pos k)).symm
 have up:N*2^k<10^(d+(k-m)+1):=by
  have b1:2^k*10^(m-1)≤10^k:=by rw[←e25];exact Nat.mul_le_mul_left _ h4
  have b2:10^k=10^(k-m+1)*10^(m-1):=by rw[←Nat.pow_add];congr 1;omega
  rw[b2]at b1;have b3:=Nat.le_of_mul_le_mul_right b1 (pow10_pos (m-1))
  calc N*2^k<10^d*2^k:=Nat.mul_lt_mul_of_pos_right h1 (Nat.pow_pos (by decide))
   _≤10^d*10^(k-m+1):=Nat.mul_le_mul_left _ b3
   _=_:=by rw[←Nat.pow_add];congr 1
 have lo:10^(d-1+(k-m))≤N*2^k:=by
  have b1:10^k≤2^k*10^m:=by rw[←e25];exact Nat.mul_le_mul_left _ (Nat.le_of_lt h3)
  have b2:10^k=10^(k-m)*10^m:=by rw[←Nat.pow_add];congr 1;omega
  rw[b2]at b1;have b3:=Nat.le_of_mul_le_mul_right b1 (pow10_pos m);rw[Nat.pow_add];exact Nat.mul_le_mul h2 b3
 by_cases hc:N*10^m<5^k*10^d
 ·rw[if_pos hc]
  have h6:=key.1 hc;have:=numD_eq (n:=N*2^k) (m:=d-1+(k-m)) lo (by rw[show d-1+(k-m)+1=d+(k-m) by omega];exact h6);omega
 ·rw[if_neg hc]
  have h6:¬N*2^k<10^(d+(k-m)):=fun x=>hc (key.2 x);have:=numD_eq (n:=N*2^k) (m:=d+(k-m)) (by omega) up;omega
theorem pilB_nil_r (l:By):pilB l []=false:=by cases l<;>rfl
theorem pilB_cons (a c:UInt8)(l r:By):pilB (a::l) (c::r)=if a=c then pilB l r else decide (a.toNat<c.toNat):=rfl
theorem u8_neq {a c:UInt8}(h:¬a=c):((a.toNat:Int) != (c.toNat:Int))=true:=by
 simp only[bne_iff_ne,ne_eq];intro e;exact h (UInt8.toNat_inj.1 (by omega))
theorem drewN_add (w:World)(m n:Nat):(w.drewN m).drewN n=w.drewN (m+n):=by simp[World.drewN,Nat.add_assoc]
theorem pil_any (w:World)(b:Nat)(A:By)(nd:Nat)(dp:Int)(neg tr:Bool)(hD:DecAt w b A nd dp neg tr)(hnd:nd≤800)(cap:Nat)(hcap:nd≤cap)(s:ByteArray)(r:By)(hs:s.data.toList=r)(hs2:s.size≤1000) :
  Calls Tryz.prog 208 #[.slice (some ⟨b,0,none⟩) nd cap,.string s] w fun e w'=>e=.returned (.bool (pilB (A.take nd) r))∧∃m,w'=w.drewN m:=by
 have HD:=xhd hD;have h800:=hD.1;clear hD;generalize hR:pilB (A.take nd) r=R;obtain⟨HR,Hs⟩:=xh2 hR hs;clear hR hs
 go_enter Tryz.func208,Tryz.ntmps208;go_wp2_with fail
 go_loopg [4,5] r.length (fun g t4 t5 wr=>∃pl l' , g=l'.length∧t4=.bool false∧t5=.int .i64 ((pl:By).length:Nat)∧r=pl++l'∧pl.length≤nd∧pilB ((A.take nd).drop pl.length) l'=R∧∃m,wr=w.drewN m)
 case atStart=>exact⟨[],r,rfl,rfl,rfl,rfl,by simp,by simpa using HR.out,0,rfl⟩
 case round =>
  obtain⟨pl,l',hg,rfl,rfl,hr,hpl,hP,m,hw⟩:=hrel;have HD2:=xhd (show DecAt wr b A nd dp neg tr by rw[hw];exact HD.out.drewN m);obtain⟨Hw,HP,Hg,Hr⟩:=xh4 hw hP hg hr;clear hw hP hg
  have hsl:s.data.toList=pl++l':=by rw[Hs.out,hr]
  clear hr
  cases l' with
  | nil =>
   have hlt:¬pl.length<s.size:=by have:=congrArg List.length hsl;simp at this;omega
   have Hsl:=xhd hsl;clear hsl
   go_wp2_with fail
   go_ret;have e:R=false:=by rw[←HP.out,pilB_nil_r]
   rw[e];exact⟨rfl,_,Hw.out⟩
  | cons c l2 =>
   obtain⟨hlt,hc,hd,hc0,hc1⟩:=at_byte hsl;have Hsl:=xhd hsl;clear hsl
   by_cases hn:pl.length<nd
   ·obtain⟨a,ha,cd⟩:=HD2.out.digE (i:=pl.length) (by omega)
    have hdr:(A.take nd).drop pl.length=a::(A.take nd).drop (pl.length+1):=by
     rw[List.drop_eq_getElem_cons (by simp;omega)];congr 1;rw[←ha];simp[List.getD_eq_getElem?_getD];rw[List.getElem?_eq_getElem (by omega)];rfl
    have HP2:=xhd (HP.out);have HP3:=xhd (show pilB (a::(A.take nd).drop (pl.length+1)) (c::l2)=R by rw[←hdr];exact HP2.out);clear hdr HP2;have Ha:=xhd ha;clear ha
    by_cases e:a=c
    ·subst e
     go_wp2_with fail
     go_quiet (fail);go_wp2_with fail
     go_roundg l2.length
     case measure=>rw[Hg.out];simp
     case rel=>exact⟨pl++[a],l2,rfl,rfl,by simp,by rw[Hr.out];simp,by simp;omega,by rw[←HP3.out,pilB_cons,if_pos rfl];simp,_,by rw[Hw.out,drewN_add]⟩
    ·have hne:=u8_neq e
     have He:=xhd e;clear e;go_wp2_with fail
     go_quiet (fail);go_wp2_with fail
     go_quiet (fail);go_wp2_with fail
     go_ret;have e:R=decide (a.toNat<c.toNat):=by rw[←HP3.out,pilB_cons,if_neg He.out]
     rw[e];exact⟨rfl,_,by rw[Hw.out,drewN_add,drewN_add]⟩
   ·have e0:pl.length=nd:=by omega
    have Hn0:=xhd e0;clear e0;go_wp2_with fail
    go_ret
    have e:R=true:=by
     rw[←HP.out,Hn0.out,List.drop_of_length_le (by simp;omega)];rfl
    rw[e];exact⟨rfl,_,Hw.out⟩
theorem scan_dig {c:UInt8}{l:By}{d p a:Int}{r:Int×Int×Int}(h:numScan (c::l) d p a=some r):46≤c.toNat∧c.toNat≤57:=by
 rcases scan_cons h with⟨h1,h2,_⟩|⟨h1,_⟩<;>omega
theorem numOk_parts {l:By}(h:numOk l):∃(pre:By) (c:UInt8) (l1:By) (d a:Int),l=pre++c::l1∧(pre=[]∨pre=[43]∨pre=[45])∧numStrip l=c::l1∧numScan (c::l1) 0 0 0=some (d,1,a)∧1≤d∧d≤60∧a≤14:=by
 obtain⟨d,a,h1,h2,h3,h4⟩:=h
 cases l with
 | nil=>simp[numStrip,numScan]at h1
 | cons c l =>
  by_cases hs:(c.toNat:Int)==43∨(c.toNat:Int)==45
  ·have e:numStrip (c::l)=l:=by simp only[numStrip];rw[if_pos hs]
   rw[e]at h1
   cases l with
   | nil=>simp[numScan]at h1
   | cons c2 l2 =>
    refine⟨[c],c2,l2,d,a,rfl,?_,e,h1,h2,h3,h4⟩;right;rcases hs with hs|hs
    ·left;congr 1;apply UInt8.toNat_inj.1;simp at hs;have:(43:UInt8).toNat=43:=rfl;omega
    ·right;congr 1;apply UInt8.toNat_inj.1;simp at hs;have:(45:UInt8).toNat=45:=rfl;omega
  ·have e:numStrip (c::l)=c::l:=by simp only[numStrip];rw[if_neg hs]
   rw[e]at h1;exact⟨[],c,l,d,a,rfl,.inl rfl,e,h1,h2,h3,h4⟩
theorem low_bits:∀n:Nat,n<58→46≤n→(bits BinOp.or IntKind.u8 (n:Int) 32==120)=false∧(bits BinOp.or IntKind.u8 (n:Int) 32==101)=false:=by decide
theorem low_any (w:World)(n:Int):Calls Tryz.prog 158 #[.int .u8 n] w fun e w'=>e=.returned (.int .u8 (bits BinOp.or IntKind.u8 n 32))∧w'=w:=by
 go_enter Tryz.func158,Tryz.ntmps158;go_wp2_with fail
 go_ret;exact⟨rfl,rfl⟩
theorem cpl_zero (w:World)(s:ByteArray)(c:UInt8)(l:By)(hs:s.data.toList=c::l)(hc1:46≤c.toNat)(hc2:c.toNat≤57)(hs2:s.size≤1000)(t:ByteArray)(ht:t.data.toList=[105,110,102,105,110,105,116,121]) :
  Calls Tryz.prog 196 #[.string s,.string t] w fun e w'=>e=.returned (.int .i64 0)∧w'=w:=by
 obtain⟨hlt,hcc,hd,hc0,_⟩:=at_byte (pre:=[]) (by simpa using hs);simp only[List.length_nil]at hlt hcc hd;have Hs:=xhd hs;clear hs
 obtain⟨tlt,tcc,td,_,_⟩:=at_byte (pre:=[]) (l:=[110,102,105,110,105,116,121]) (c:=105) (by simpa using ht);simp only[List.length_nil]at tlt tcc td;have tsz:t.size=8:=by have:=congrArg List.length ht;simpa using this
 have Ht:=xhd ht;clear ht
 have hb1:((c.toNat:Int) != 105)=true:=by simp;omega
 go_enter Tryz.func196,Tryz.ntmps196;go_wp2_with fail
 all_goals
  go_loopg [6] 0 (fun g t6 wr=>t6=.int .i64 0∧w=wr)
  case atStart=>exact⟨rfl,rfl⟩
  case round =>
   obtain⟨rfl,rfl⟩:=hrel;go_wp2_with fail
   go_ret;exact⟨rfl,rfl⟩
theorem bytes_drop1 (s:ByteArray):(s.extract 1 s.size).data.toList=s.data.toList.drop 1:=by
 simp;rw[List.take_of_length_le (by simp)]
theorem special_any (w:World)(s:ByteArray)(l:By)(hs:s.data.toList=l)(hok:numOk l)(hs2:s.size≤1000) :
  Calls Tryz.prog 142 #[.string s] w fun e w'=>e=.returned (.tuple #[.float .f64 0,.int .i64 0,.bool false])∧w'=w:=by
 obtain⟨pre,c,l1,d,a,rfl,hp,_,hsc,_⟩:=numOk_parts hok;obtain⟨hc1,hc2⟩:=scan_dig hsc;clear hsc hok;rcases hp with rfl|rfl|rfl
 ·obtain⟨hlt,hcc,hd,hc0,_⟩:=at_byte (pre:=[]) (by simpa using hs)
  simp only[List.length_nil]at hlt hcc hd;have h1:((s.size:Int)==0)=false:=beq_eq_false_iff_ne.2 (by omega);have b1:((c.toNat:Int)==43)=false:=by simp;omega
  have b2:((c.toNat:Int)==45)=false:=by simp;omega
  have b3:((c.toNat:Int)==105)=false:=by simp;omega
  have b4:((c.toNat:Int)==73)=false:=by simp;omega
  have b5:((c.toNat:Int)==110)=false:=by simp;omega
  have b6:((c.toNat:Int)==78)=false:=by simp;omega
  have Hs:=xhd hs;clear hs
  go_enter Tryz.func142,Tryz.ntmps142;go_wp2_with fail
  go_ret3;exact⟨rfl,rfl⟩
 all_goals
  obtain⟨hlt,hcc,hd,hc0,_⟩:=at_byte (pre:=[]) (by simpa using hs);simp only[List.length_nil]at hlt hcc hd;have h1:((s.size:Int)==0)=false:=beq_eq_false_iff_ne.2 (by omega);have hsz:1≤s.size:=by omega
  have Hs:=xhd hs;clear hs;go_enter Tryz.func142,Tryz.ntmps142;have hx:(s.extract 1 s.size).data.toList=c::l1:=by rw[bytes_drop1,Hs.out];rfl
  have hx2:(s.extract 1 s.size).size≤1000:=by rw[ByteArray.size_extract];omega
  obtain⟨s2,hs2'⟩:∃s2,s2=s.extract 1 s.size:=⟨_,rfl⟩;rw[←hs2']at hx hx2;have hs3:s.extract 1 s.size=s2:=hs2'.symm;clear hs2';have Hx:=xhd hx;clear hx
  go_wp2_with fail
  refine(cpl_zero _ s2 c l1 Hx.out hc1 hc2 hx2 _ rfl).mono ?_;rintro e w1⟨rfl,hw⟩;subst w1;go_wp2_with fail
  go_ret3;exact⟨rfl,rfl⟩
end Go.Proofs.YtfkecmlmnhbmoaaGreatDoor
namespace Go.Proofs.YtfkecmlmnhbmoaaGreatDoor
inductive PO where
 | null|bool (b:Bool)|int (n:Int)|real (x:Nat)|lit (s:By)|hexl (s:By)|name (s:By)|ref (n g:Int)|arr (kids:List PO)|dict (keys:List By)(kids:List PO)
def litT (s:By):By:=match litF (40::(s++[41])) 0 [] with
 | some (t,_)=>t
 | none=>[]
def hexT (s:By):By:=(hexF (s++[62]) false 0 [] false).2.1
mutual
def valP:PO→PV
 | .null=>.null
 | .bool b=>.bool (if b then 1 else 0)
 | .int n=>.int n
 | .real x=>.real x
 | .lit s=>.str (litT s)
 | .hexl s=>.str (hexT s)
 | .name s=>.name s
 | .ref n g=>.ref n g
 | .arr kids=>.arr (valPs kids)
 | .dict keys kids=>.dict keys (valPs kids)
def valPs:List PO→List PV
 | []=>[]
 | p::ps=>valP p::valPs ps
end
theorem valPs_map:∀l,valPs l=l.map valP:=by
 intro l
 induction l with
 | nil=>rfl
 | cons p l ih=>simp[valPs,ih]
def leBy:By→By→Bool:=fun x y=>decide (x≤y)
def PV.isNull:PV→Bool
 | .null=>true
 | _=>false
def nnz (l:List PV):Nat:=(l.filter fun x=>!x.isNull).length
def SameN (eqv:Nat→Nat→Prop):Nat→PV→PV→Prop
 | 0,_,_=>False
 | n+1,.arr ks,.arr ls=>ks.length=ls.length∧∀(i:Nat) a b,ks[i]?=some a→ls[i]?=some b→SameN eqv n a b
 | n+1,.dict k1 v1,.dict k2 v2=>k1.length=v1.length∧k2.length=v2.length∧nnz v1=nnz v2∧∀(i:Nat) k a,k1[i]?=some k→v1[i]?=some a→a.isNull=false→∃(j:Nat) (b:PV),k2[j]?=some k∧(∀j':Nat,j'<j→k2[j']?≠some k)∧v2[j]?=some b∧b.isNull=false∧SameN eqv n a b
 | _+1,.real x,.real y=>eqv x y
 | _+1,.null,.null=>True
 | _+1,.bool a,.bool b=>a=b
 | _+1,.int a,.int b=>a=b
 | _+1,.str a,.str b=>a=b
 | _+1,.name a,.name b=>a=b
 | _+1,.ref a c,.ref b d=>a=b∧c=d
 | _+1,_,_=>False
theorem nodup_first {α:Type}[DecidableEq α]{l:List α}(h:l.Nodup){j:Nat}{k:α}(hj:l[j]?=some k):∀j',j'<j→l[j']?≠some k:=by
 intro j' hlt e;have h1:=(List.getElem?_eq_some_iff.1 hj);have h2:=(List.getElem?_eq_some_iff.1 e);have:=(List.getElem_inj (i:=j') (j:=j) (h₀:=h2.1) (h₁:=h1.1) h).1 (h2.2.trans h1.2.symm);omega
theorem numScan_chars:∀(l:By) (d p a:Int) (r:Int×Int×Int),numScan l d p a=some r→∀c∈l,isDig (c.toNat:Int)=true∨(c.toNat:Int)=46:=by
 intro l
 induction l with
 | nil=>intro d p a r _ c hc;simp at hc
 | cons e l ih =>
  intro d p a r h c hc;simp only[numScan]at h
  split at h
  ·rename_i hd
   rcases List.mem_cons.1 hc with rfl|hc
   ·exact .inl hd
   ·exact ih _ _ _ _ h c hc
  ·split at h
   ·rename_i hp
    rcases List.mem_cons.1 hc with rfl|hc
    ·exact .inr (by simpa using hp)
    ·exact ih _ _ _ _ h c hc
   ·simp at h
theorem atoi_strip (c:UInt8)(l:By):numStrip (c::l)=(if c.toNat=43∨c.toNat=45 then l else c::l):=by
 simp only[numStrip]
 by_cases h:c.toNat=43∨c.toNat=45
 ·rw[if_pos h,if_pos]
  simp only[beq_iff_eq];omega
 ·rw[if_neg h,if_neg]
  simp only[beq_iff_eq];omega
theorem numScan_digs:∀(l:By) (d a:Int),(∀c∈l,isDig (c.toNat:Int)=true)→numScan l d 0 a=some (d+l.length,0,a+l.length):=by
 intro l
 induction l with
 | nil=>intro d a _;simp[numScan]
 | cons c l ih =>
  intro d a h;simp only[numScan,h c (by simp),if_true,beq_self_eq_true];rw[ih _ _ (fun e he=>h e (by simp[he]))];simp;omega
def bs (l:By):ByteArray:=⟨l.toArray⟩
theorem bs_size (l:By):(bs l).size=l.length:=by simp[bs,ByteArray.size]
theorem bs_list (l:By):(bs l).data.toList=l:=by simp[bs]
theorem bs_of (s:ByteArray):s=bs s.data.toList:=by simp[bs]
theorem bs_extract (l:By)(i j:Nat):(bs l).extract i j=bs ((l.take j).drop i):=by
 apply ByteArray.ext
 show _=_
 simp only[bs,ByteArray.data_extract];apply Array.ext';simp[List.extract_eq_take_drop,List.drop_take]
open Go Go.RowKit
def ipT (L:By)(dp:Int):By:=if 0<dp then L.take dp.toNat++List.replicate (dp.toNat-L.length) 48 else [48]
def lzT (dp:Int):Nat:=min 12 (-dp).toNat
def mdT (L:By)(dp:Int):Nat:=min (12-lzT dp) (L.length-(dp+lzT dp).toNat)
def frT (L:By)(dp:Int):By:=List.replicate (lzT dp) 48++((L.drop (dp+lzT dp).toNat).take (mdT L dp)++List.replicate (12-lzT dp-mdT L dp) 48)
def ftxt (neg:Bool)(L:By)(dp:Int):By:=(if neg then [45] else [])++(ipT L dp++46::frT L dp)
theorem isDs_tk {L:By}(h:isDs L)(n:Nat):isDs (L.take n):=fun c hc=>h c (List.mem_of_mem_take hc)
theorem isDs_dr {L:By}(h:isDs L)(n:Nat):isDs (L.drop n):=fun c hc=>h c (List.mem_of_mem_drop hc)
theorem isDs_ap {a b:By}(ha:isDs a)(hb:isDs b):isDs (a++b):=fun c hc=>by
 rcases List.mem_append.1 hc with h|h
 ·exact ha c h
 ·exact hb c h
theorem isDs_rp (n:Nat):isDs (List.replicate n 48):=fun c hc=>by
 obtain⟨_,rfl⟩:=List.mem_replicate.1 hc;decide
theorem ipT_ds {L:By}(h:isDs L)(dp:Int):isDs (ipT L dp):=by
 unfold ipT
 split
 ·exact isDs_ap (isDs_tk h _) (isDs_rp _)
 ·intro c hc;simp at hc;subst hc;decide
theorem frT_ds {L:By}(h:isDs L)(dp:Int):isDs (frT L dp):=isDs_ap (isDs_rp _) (isDs_ap (isDs_tk (isDs_dr h _) _) (isDs_rp _))
theorem ipT_len {L:By}{dp:Int}(h:dp≤14):1≤(ipT L dp).length∧(ipT L dp).length≤14:=by
 unfold ipT
 split
 ·rw[List.length_append,List.length_take,List.length_replicate];omega
 ·simp
theorem frT_len (L:By)(dp:Int):(frT L dp).length=12:=by
 unfold frT;rw[List.length_append,List.length_append,List.length_take,List.length_drop,List.length_replicate,List.length_replicate];unfold mdT lzT;omega
theorem scan_ds:∀(l:By),isDs l→∀(r:By) (d p a:Int),numScan (l++r) d p a=numScan r (d+l.length) p (if p==0 then a+l.length else a):=by
 intro l
 induction l with
 | nil=>intro _ r d p a;simp
 | cons c l ih =>
  intro h r d p a;have hc:=h c (by simp);have hd:isDig (c.toNat:Int)=true:=by simp[isDig];omega
  rw[List.cons_append];simp only[numScan,hd,if_true];rw[ih (fun e he=>h e (by simp[he]))];have e1:d+1+(l.length:Int)=d+((c::l).length:Nat):=by simp;omega
  rw[e1];congr 1
  by_cases hp:(p==0)=true
  ·rw[if_pos hp,if_pos hp,if_pos hp];simp;omega
  ·rw[if_neg hp,if_neg hp,if_neg hp]
theorem scan_txt {i f:By}(hi:isDs i)(hf:isDs f):numScan (i++46::f) 0 0 0=some (((i.length+f.length:Nat):Int),1,(i.length:Int)):=by
 rw[scan_ds i hi];simp only[beq_self_eq_true,if_true]
 have e:numScan (46::f) (0+(i.length:Int)) 0 (0+(i.length:Int))=numScan (f++[]) (0+(i.length:Int)) 1 (0+(i.length:Int)):=by
  rw[List.append_nil];have h1:isDig ((46:UInt8).toNat:Int)=false:=by decide
  simp only[numScan,h1];rfl
 rw[e,scan_ds f hf];have h2:((1:Int)==0)=false:=by decide
 simp only[numScan,h2];simp
theorem ftxt_ok {L:By}(h:isDs L){dp:Int}(hdp:dp≤14)(neg:Bool):numOk (ftxt neg L dp):=by
 have hi:=ipT_ds h dp;have hf:=frT_ds h dp;have l1:=ipT_len (L:=L) hdp;have l2:=frT_len L dp
 have hst:numStrip (ftxt neg L dp)=ipT L dp++46::frT L dp:=by
  unfold ftxt
  cases neg
  ·simp only[Bool.false_eq_true,if_false,List.nil_append]
   generalize ipT L dp=i at *
   cases i with
   | nil=>simp at l1
   | cons c i =>
    have:=hi c (by simp);rw[List.cons_append,atoi_strip,if_neg (by omega)]
  ·simp only[if_true,List.cons_append,List.nil_append]
   rw[atoi_strip,if_pos (by decide)]
 exact⟨_,_,by rw[hst];exact scan_txt hi hf,by omega,by omega,by omega⟩
end Go.Proofs.YtfkecmlmnhbmoaaGreatDoor
