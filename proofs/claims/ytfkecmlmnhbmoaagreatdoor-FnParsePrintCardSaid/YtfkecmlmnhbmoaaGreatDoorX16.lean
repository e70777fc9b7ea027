/- Parts F6 F7 F12 P9 P10 P11 P12 J0. -/
import Derived.Test.YtfkecmlmnhbmoaaGreatDoorX8
import Derived.Test.YtfkecmlmnhbmoaaGreatDoorX15
set_option linter.unusedVariables false
set_option linter.unusedSimpArgs false
set_option maxRecDepth 100000
set_option maxHeartbeats 40000000
namespace Go.Proofs.YtfkecmlmnhbmoaaGreatDoor
open Go Go.RowKit
theorem a8A:∀(l:By) (n:Nat),l.foldl (fun n c=>10*n+(c.toNat-48)) n=n*10^l.length+dv l:=by
 intro l
 induction l with
 | nil=>intro n;simp[dv]
 | cons c l ih =>
  intro n;simp only[List.foldl_cons,dv,List.length_cons];rw[ih,ih,Nat.pow_succ]
  have e:(10*n+(c.toNat-48))*10^l.length=n*(10^l.length*10)+(10*0+(c.toNat-48))*10^l.length:=by
   rw[Nat.add_mul,Nat.mul_comm 10 n,Nat.mul_assoc,Nat.mul_comm 10];simp
  rw[e];omega
theorem a6U (c:UInt8)(l:By):dv (c::l)=(c.toNat-48)*10^l.length+dv l:=by
 have:=a8A l (c.toNat-48);simp only[dv,List.foldl_cons]at this⊢;simpa using this
theorem a5E {c:UInt8}{l:By} : isDs (c::l)↔(48≤c.toNat∧c.toNat≤57)∧isDs l:=by
 unfold isDs;simp
theorem b1B:∀(l:By),isDs l→dv l<10^l.length:=by
 intro l h;have:=c1E l.length l (Nat.le_refl _) (by simpa using h);simpa using this
def digF:Nat→Nat→By
 | 0,_=>[]
 | f+1,n=>if n=0 then [] else digF f (n/10)++[UInt8.ofNat (n%10+48)]
theorem b1z:∀(f n:Nat),numD n≤f→dv (digF f n)=n∧isDs (digF f n)∧(digF f n).length=numD n:=by
 intro f
 induction f with
 | zero =>
  intro n h
  by_cases h0:n=0
  ·subst h0;simp[digF,dv,isDs,a1n]
  ·have:=a0N h0;omega
 | succ f ih =>
  intro n h
  by_cases h0:n=0
  ·subst h0;simp[digF,dv,isDs,a1n]
  ·have h1:=a2G h0
   obtain⟨a,b,c⟩:=ih (n/10) (by omega);simp only[digF];rw[if_neg h0];refine⟨?_,a4f b (by omega),by simp[c,h1]⟩;rw[a7E (by omega),a];omega
def lcS (k:Nat):ByteArray:=⟨(digF 60 (5^k)).toArray⟩
def lcD (k:Nat):Nat:=k+1-numD (5^k)
theorem b7y (k:Nat)(hk:1≤k):5^k<10^k:=Nat.pow_lt_pow_left (by decide) (by omega)
theorem a5V (k:Nat)(hk:1≤k):1≤numD (5^k)∧numD (5^k)≤k:=⟨a0N (a5U k),a1e (b7y k hk)⟩
def pilB:By→By→Bool
 | _,[]=>false
 | [],_::_=>true
 | a::l,c::r=>if a=c then pilB l r else decide (a.toNat<c.toNat)
theorem b2w:∀(l r:By),isDs l→isDs r→(r=[]∨dv r%10≠0)→(pilB l r=true↔dv l*10^r.length<dv r*10^l.length):=by
 intro l
 induction l with
 | nil =>
  intro r _ hr h
  cases r with
  | nil=>simp[pilB,dv]
  | cons c r =>
   simp only[pilB];have:dv (c::r)≠0:=by rcases h with h|h;cases h;omega
   constructor
   ·intro _;simp[dv]at this⊢;omega
   ·intro _;trivial
 | cons a l ih =>
  intro r hl hr h;obtain⟨ha,hl'⟩:=a5E.1 hl
  cases r with
  | nil=>simp[pilB,dv]
  | cons c r =>
   obtain⟨hc,hr'⟩:=a5E.1 hr;have hL:=b1B l hl';have hR:=b1B r hr';rw[a6U,a6U,List.length_cons,List.length_cons,Nat.pow_succ,Nat.pow_succ]
   have e1:∀(x D P Q:Nat),(x*P+D)*(Q*10)=10*(x*(P*Q))+10*(D*Q):=by
    intro x D P Q;rw[Nat.add_mul,Nat.mul_assoc x P,←Nat.mul_assoc P Q 10,←Nat.mul_assoc D Q 10,←Nat.mul_assoc x];omega
   rw[e1 (a.toNat-48) (dv l) (10^l.length) (10^r.length),e1 (c.toNat-48) (dv r) (10^r.length) (10^l.length),Nat.mul_comm (10^r.length) (10^l.length)];have hLQ:dv l*10^r.length<10^l.length*10^r.length:=Nat.mul_lt_mul_of_pos_right hL (a1a _)
   have hRP:dv r*10^l.length<10^l.length*10^r.length:=by
    rw[Nat.mul_comm (10^l.length)];exact Nat.mul_lt_mul_of_pos_right hR (a1a _)
   simp only[pilB]
   by_cases e:a=c
   ·subst e
    rw[if_pos rfl]
    have hr2:r=[]∨dv r%10≠0:=by
     cases r with
     | nil=>exact .inl rfl
     | cons d r2 =>
      right;rcases h with h|h
      ·cases h
      ·rw[a6U]at h
       simp only[List.length_cons,Nat.pow_succ]at h;rw[←Nat.mul_assoc]at h;omega
    rw[ih r hl' hr' hr2];generalize dv l*10^r.length=x at *;generalize dv r*10^l.length=y at *;omega
   ·rw[if_neg e]
    have hne:a.toNat≠c.toNat:=fun x=>e (UInt8.toNat_inj.1 x);simp only[decide_eq_true_eq];generalize dv l*10^r.length=x at *;generalize dv r*10^l.length=y at *;generalize 10^l.length*10^r.length=z at *
    constructor
    ·intro hlt
     have:(a.toNat-48)*z+z≤(c.toNat-48)*z:=by
      have h1:(a.toNat-48)+1≤c.toNat-48:=by omega
      calc (a.toNat-48)*z+z=((a.toNat-48)+1)*z:=by rw[Nat.add_mul];omega
       _≤_:=Nat.mul_le_mul_right _ h1
     omega
    ·intro hlt
     by_cases h2:a.toNat<c.toNat
     ·exact h2
     ·exfalso
      have:(c.toNat-48)*z+z≤(a.toNat-48)*z:=by
       have h1:(c.toNat-48)+1≤a.toNat-48:=by omega
       calc (c.toNat-48)*z+z=((c.toNat-48)+1)*z:=by rw[Nat.add_mul];omega
        _≤_:=Nat.mul_le_mul_right _ h1
      omega
theorem b0C {N k:Nat}(hN:N≠0)(hk:1≤k):numD (N*2^k)+(if N*10^numD (5^k)<5^k*10^numD N then 1 else 0)=numD N+lcD k:=by
 have hm:=a5V k hk;have h1:=a2m N;have h2:=a2W N hN;have h3:=a2m (5^k);have h4:=a2W (5^k) (a5U k);have hd:=a0N hN;have h5:(0:Nat)<5^k:=Nat.pow_pos (by decide);have e25:2^k*5^k=10^k:=by rw[←Nat.mul_pow]
 unfold lcD;generalize hmm:numD (5^k)=m at *;generalize hdd:numD N=d at *
 have key:N*10^m<5^k*10^d↔N*2^k<10^(d+(k-m)):=by
  have a1:N*2^k*(5^k*10^m)=N*10^m*10^k:=by
   rw[←e25,Nat.mul_assoc,←Nat.mul_assoc (2^k),Nat.mul_comm (2^k*5^k),Nat.mul_assoc]
  have a2:10^(d+(k-m))*(5^k*10^m)=5^k*10^d*10^k:=by
   rw[Nat.mul_left_comm,←Nat.pow_add,Nat.mul_assoc,←Nat.pow_add];congr 2;omega
  have hp:0<5^k*10^m:=Nat.mul_pos h5 (a1a m);rw[show (N*2^k<10^(d+(k-m)))↔(N*2^k*(5^k*10^m)<10^(d+(k-m))*(5^k*10^m)) from(Nat.mul_lt_mul_right hp).symm,a1,a2];exact(Nat.mul_lt_mul_right (a1a k)).symm
 have up:N*2^k<10^(d+(k-m)+1):=by
  have b1:2^k*10^(m-1)≤10^k:=by rw[←e25];exact Nat.mul_le_mul_left _ h4
  have b2:10^k=10^(k-m+1)*10^(m-1):=by rw[←Nat.pow_add];congr 1;omega
  rw[b2]at b1;have b3:=Nat.le_of_mul_le_mul_right b1 (a1a (m-1))
  calc N*2^k<10^d*2^k:=Nat.mul_lt_mul_of_pos_right h1 (Nat.pow_pos (by decide))
   _≤10^d*10^(k-m+1):=Nat.mul_le_mul_left _ b3
   _=_:=by rw[←Nat.pow_add];congr 1
 have lo:10^(d-1+(k-m))≤N*2^k:=by
  have b1:10^k≤2^k*10^m:=by rw[←e25];exact Nat.mul_le_mul_left _ (Nat.le_of_lt h3)
  have b2:10^k=10^(k-m)*10^m:=by rw[←Nat.pow_add];congr 1;omega
  rw[b2]at b1;have b3:=Nat.le_of_mul_le_mul_right b1 (a1a m);rw[Nat.pow_add];exact Nat.mul_le_mul h2 b3
 by_cases hc:N*10^m<5^k*10^d
 ·rw[if_pos hc]
  have h6:=key.1 hc;have:=a3Y (n:=N*2^k) (m:=d-1+(k-m)) lo (by rw[show d-1+(k-m)+1=d+(k-m) by omega];exact h6);omega
 ·rw[if_neg hc]
  have h6:¬N*2^k<10^(d+(k-m)):=fun x=>hc (key.2 x);have:=a3Y (n:=N*2^k) (m:=d+(k-m)) (by omega) up;omega
theorem b0J (l:By):pilB l []=false:=by cases l<;>rfl
theorem a7X (a c:UInt8)(l r:By):pilB (a::l) (c::r)=if a=c then pilB l r else decide (a.toNat<c.toNat):=rfl
theorem b9V {a c:UInt8}(h:¬a=c):((a.toNat:Int) != (c.toNat:Int))=true:=by
 simp only[bne_iff_ne,ne_eq];intro e;exact h (UInt8.toNat_inj.1 (by omega))
theorem a5z (w:World)(m n:Nat):(w.drewN m).drewN n=w.drewN (m+n):=by simp[World.drewN,Nat.add_assoc]
theorem b7w (w:World)(b:Nat)(A:By)(nd:Nat)(dp:Int)(neg tr:Bool)(hD:a0O w b A nd dp neg tr)(hnd:nd≤800)(cap:Nat)(hcap:nd≤cap)(s:ByteArray)(r:By)(hs:s.data.toList=r)(hs2:s.size≤1000) :
  Calls Tryz.prog 208 #[.slice (some ⟨b,0,none⟩) nd cap,.string s] w fun e w'=>e=.returned (.bool (pilB (A.take nd) r))∧∃m,w'=w.drewN m:=by
 have HD:=xhd hD;have h800:=hD.1;clear hD;generalize hR:pilB (A.take nd) r=R;obtain⟨HR,Hs⟩:=xh2 hR hs;clear hR hs
 go_enter Tryz.func208,Tryz.ntmps208;go_wp2_with fail
 go_loopg [4,5] r.length (fun g t4 t5 wr=>∃pl l' , g=l'.length∧t4=.bool false∧t5=.int .i64 ((pl:By).length:Nat)∧r=pl++l'∧pl.length≤nd∧pilB ((A.take nd).drop pl.length) l'=R∧∃m,wr=w.drewN m)
 case atStart=>exact⟨[],r,rfl,rfl,rfl,rfl,by simp,by simpa using HR.out,0,rfl⟩
 case round =>
  obtain⟨pl,l',hg,rfl,rfl,hr,hpl,hP,m,hw⟩:=hrel;have HD2:=xhd (show a0O wr b A nd dp neg tr by rw[hw];exact HD.out.drewN m);obtain⟨Hw,HP,Hg,Hr⟩:=xh4 hw hP hg hr;clear hw hP hg
  have hsl:s.data.toList=pl++l':=by rw[Hs.out,hr]
  clear hr
  cases l' with
  | nil =>
   have hlt:¬pl.length<s.size:=by have:=congrArg List.length hsl;simp at this;omega
   have Hsl:=xhd hsl;clear hsl
   go_wp2_with fail
   go_ret;have e:R=false:=by rw[←HP.out,b0J]
   rw[e];exact⟨rfl,_,Hw.out⟩
  | cons c l2 =>
   obtain⟨hlt,hc,hd,hc0,hc1⟩:=a0G hsl;have Hsl:=xhd hsl;clear hsl
   by_cases hn:pl.length<nd
   ·obtain⟨a,ha,cd⟩:=HD2.out.digE (i:=pl.length) (by omega)
    have hdr:(A.take nd).drop pl.length=a::(A.take nd).drop (pl.length+1):=by
     rw[List.drop_eq_getElem_cons (by simp;omega)];congr 1;rw[←ha];simp[List.getD_eq_getElem?_getD];rw[List.getElem?_eq_getElem (by omega)];rfl
    have HP2:=xhd (HP.out);have HP3:=xhd (show pilB (a::(A.take nd).drop (pl.length+1)) (c::l2)=R by rw[←hdr];exact HP2.out);clear hdr HP2;have Ha:=xhd ha;clear ha
    by_cases e:a=c
    ·subst e
     go_wp2_with fail
     go_quiet (fail);go_wp2_with fail
     go_roundg l2.length
     case measure=>rw[Hg.out];simp
     case rel=>exact⟨pl++[a],l2,rfl,rfl,by simp,by rw[Hr.out];simp,by simp;omega,by rw[←HP3.out,a7X,if_pos rfl];simp,_,by rw[Hw.out,a5z]⟩
    ·have hne:=b9V e
     have He:=xhd e;clear e;go_wp2_with fail
     go_quiet (fail);go_wp2_with fail
     go_quiet (fail);go_wp2_with fail
     go_ret;have e:R=decide (a.toNat<c.toNat):=by rw[←HP3.out,a7X,if_neg He.out]
     rw[e];exact⟨rfl,_,by rw[Hw.out,a5z,a5z]⟩
   ·have e0:pl.length=nd:=by omega
    have Hn0:=xhd e0;clear e0;go_wp2_with fail
    go_ret
    have e:R=true:=by
     rw[←HP.out,Hn0.out,List.drop_of_length_le (by simp;omega)];rfl
    rw[e];exact⟨rfl,_,Hw.out⟩
theorem a3G {c:UInt8}{l:By}{d p a:Int}{r:Int×Int×Int}(h:a0l (c::l) d p a=some r):46≤c.toNat∧c.toNat≤57:=by
 rcases a2j h with⟨h1,h2,_⟩|⟨h1,_⟩<;>omega
theorem a2c {l:By}(h:a1q l):∃(pre:By) (c:UInt8) (l1:By) (d a:Int),l=pre++c::l1∧(pre=[]∨pre=[43]∨pre=[45])∧a0i l=c::l1∧a0l (c::l1) 0 0 0=some (d,1,a)∧1≤d∧d≤60∧a≤14:=by
 obtain⟨d,a,h1,h2,h3,h4⟩:=h
 cases l with
 | nil=>simp[a0i,a0l]at h1
 | cons c l =>
  by_cases hs:(c.toNat:Int)==43∨(c.toNat:Int)==45
  ·have e:a0i (c::l)=l:=by simp only[a0i];rw[if_pos hs]
   rw[e]at h1
   cases l with
   | nil=>simp[a0l]at h1
   | cons c2 l2 =>
    refine⟨[c],c2,l2,d,a,rfl,?_,e,h1,h2,h3,h4⟩;right;rcases hs with hs|hs
    ·left;congr 1;apply UInt8.toNat_inj.1;simp at hs;have:(43:UInt8).toNat=43:=rfl;omega
    ·right;congr 1;apply UInt8.toNat_inj.1;simp at hs;have:(45:UInt8).toNat=45:=rfl;omega
  ·have e:a0i (c::l)=c::l:=by simp only[a0i];rw[if_neg hs]
   rw[e]at h1;exact⟨[],c,l,d,a,rfl,.inl rfl,e,h1,h2,h3,h4⟩
theorem b4o:∀n:Nat,n<58→46≤n→(bits BinOp.or IntKind.u8 (n:Int) 32==120)=false∧(bits BinOp.or IntKind.u8 (n:Int) 32==101)=false:=by decide
theorem b7c (w:World)(n:Int):Calls Tryz.prog 158 #[.int .u8 n] w fun e w'=>e=.returned (.int .u8 (bits BinOp.or IntKind.u8 n 32))∧w'=w:=by
 go_enter Tryz.func158,Tryz.ntmps158;go_wp2_with fail
 go_ret;exact⟨rfl,rfl⟩
theorem b3U (w:World)(s:ByteArray)(c:UInt8)(l:By)(hs:s.data.toList=c::l)(hc1:46≤c.toNat)(hc2:c.toNat≤57)(hs2:s.size≤1000)(t:ByteArray)(ht:t.data.toList=[105,110,102,105,110,105,116,121]) :
  Calls Tryz.prog 196 #[.string s,.string t] w fun e w'=>e=.returned (.int .i64 0)∧w'=w:=by
 obtain⟨hlt,hcc,hd,hc0,_⟩:=a0G (pre:=[]) (by simpa using hs);simp only[List.length_nil]at hlt hcc hd;have Hs:=xhd hs;clear hs
 obtain⟨tlt,tcc,td,_,_⟩:=a0G (pre:=[]) (l:=[110,102,105,110,105,116,121]) (c:=105) (by simpa using ht);simp only[List.length_nil]at tlt tcc td;have tsz:t.size=8:=by have:=congrArg List.length ht;simpa using this
 have Ht:=xhd ht;clear ht
 have hb1:((c.toNat:Int) != 105)=true:=by simp;omega
 go_enter Tryz.func196,Tryz.ntmps196;go_wp2_with fail
 all_goals
  go_loopg [6] 0 (fun g t6 wr=>t6=.int .i64 0∧w=wr)
  case atStart=>exact⟨rfl,rfl⟩
  case round =>
   obtain⟨rfl,rfl⟩:=hrel;go_wp2_with fail
   go_ret;exact⟨rfl,rfl⟩
theorem a8v (s:ByteArray):(s.extract 1 s.size).data.toList=s.data.toList.drop 1:=by
 simp;rw[List.take_of_length_le (by simp)]
theorem a3Z (w:World)(s:ByteArray)(l:By)(hs:s.data.toList=l)(hok:a1q l)(hs2:s.size≤1000) :
  Calls Tryz.prog 142 #[.string s] w fun e w'=>e=.returned (.tuple #[.float .f64 0,.int .i64 0,.bool false])∧w'=w:=by
 obtain⟨pre,c,l1,d,a,rfl,hp,_,hsc,_⟩:=a2c hok;obtain⟨hc1,hc2⟩:=a3G hsc;clear hsc hok;rcases hp with rfl|rfl|rfl
 ·obtain⟨hlt,hcc,hd,hc0,_⟩:=a0G (pre:=[]) (by simpa using hs)
  simp only[List.length_nil]at hlt hcc hd;have h1:((s.size:Int)==0)=false:=beq_eq_false_iff_ne.2 (by omega);have b1:((c.toNat:Int)==43)=false:=by simp;omega
  have b2:((c.toNat:Int)==45)=false:=by simp;omega
  have b3:((c.toNat:Int)==105)=false:=by simp;omega
  have b4:((c.toNat:Int)==73)=false:=by simp;omega
  have b5:((c.toNat:Int)==110)=false:=by simp;omega
  have b6:((c.toNat:Int)==78)=false:=by simp;omega
  have Hs:=xhd hs;clear hs
  go_enter Tryz.func142,Tryz.ntmps142;go_wp2_with fail
  go_ret3;exact⟨rfl,rfl⟩
 all_goals
  obtain⟨hlt,hcc,hd,hc0,_⟩:=a0G (pre:=[]) (by simpa using hs);simp only[List.length_nil]at hlt hcc hd;have h1:((s.size:Int)==0)=false:=beq_eq_false_iff_ne.2 (by omega);have hsz:1≤s.size:=by omega
  have Hs:=xhd hs;clear hs;go_enter Tryz.func142,Tryz.ntmps142;have hx:(s.extract 1 s.size).data.toList=c::l1:=by rw[a8v,Hs.out];rfl
  have hx2:(s.extract 1 s.size).size≤1000:=by rw[ByteArray.size_extract];omega
  obtain⟨s2,hs2'⟩:∃s2,s2=s.extract 1 s.size:=⟨_,rfl⟩;rw[←hs2']at hx hx2;have hs3:s.extract 1 s.size=s2:=hs2'.symm;clear hs2';have Hx:=xhd hx;clear hx
  go_wp2_with fail
  refine(b3U _ s2 c l1 Hx.out hc1 hc2 hx2 _ rfl).mono ?_;rintro e w1⟨rfl,hw⟩;subst w1;go_wp2_with fail
  go_ret3;exact⟨rfl,rfl⟩
end Go.Proofs.YtfkecmlmnhbmoaaGreatDoor
namespace Go.Proofs.YtfkecmlmnhbmoaaGreatDoor
inductive PO where
 | null|bool (b:Bool)|int (n:Int)|real (x:Nat)|lit (s:By)|hexl (s:By)|name (s:By)|ref (n g:Int)|arr (kids:List PO)|dict (keys:List By)(kids:List PO)
def litT (s:By):By:=match litF (40::(s++[41])) 0 [] with
 | some (t,_)=>t
 | none=>[]
def hexT (s:By):By:=(hexF (s++[62]) false 0 [] false).2.1
mutual
def valP:PO→PV
 | .null=>.null
 | .bool b=>.bool (if b then 1 else 0)
 | .int n=>.int n
 | .real x=>.real x
 | .lit s=>.str (litT s)
 | .hexl s=>.str (hexT s)
 | .name s=>.name s
 | .ref n g=>.ref n g
 | .arr kids=>.arr (a4O kids)
 | .dict keys kids=>.dict keys (a4O kids)
def a4O:List PO→List PV
 | []=>[]
 | p::ps=>valP p::a4O ps
end
theorem a8p:∀l,a4O l=l.map valP:=by
 intro l
 induction l with
 | nil=>rfl
 | cons p l ih=>simp[a4O,ih]
def leBy:By→By→Bool:=fun x y=>decide (x≤y)
def look {α:Type}(d:α):List By→List α→By→α
 | k::ks,p::ps,q=>if k=q then p else look d ks ps q
 | _,_,_=>d
mutual
def a1f:PO→PO
 | .arr kids=>.arr (a1o kids)
 | .dict keys kids=>.dict (keys.mergeSort leBy) ((keys.mergeSort leBy).map (look .null keys (a1o kids)))
 | .null=>.null
 | .bool b=>.bool b
 | .int n=>.int n
 | .real x=>.real x
 | .lit s=>.lit s
 | .hexl s=>.hexl s
 | .name s=>.name s
 | .ref n g=>.ref n g
def a1o:List PO→List PO
 | []=>[]
 | p::ps=>a1f p::a1o ps
end
theorem a2e:∀l,a1o l=l.map a1f:=by
 intro l
 induction l with
 | nil=>rfl
 | cons p l ih=>simp[a1o,ih]
def PV.isNull:PV→Bool
 | .null=>true
 | _=>false
def nnz (l:List PV):Nat:=(l.filter fun x=>!x.isNull).length
def a4Y (eqv:Nat→Nat→Prop):Nat→PV→PV→Prop
 | 0,_,_=>False
 | n+1,.arr ks,.arr ls=>ks.length=ls.length∧∀(i:Nat) a b,ks[i]?=some a→ls[i]?=some b→a4Y eqv n a b
 | n+1,.dict k1 v1,.dict k2 v2=>k1.length=v1.length∧k2.length=v2.length∧nnz v1=nnz v2∧∀(i:Nat) k a,k1[i]?=some k→v1[i]?=some a→a.isNull=false→∃(j:Nat) (b:PV),k2[j]?=some k∧(∀j':Nat,j'<j→k2[j']?≠some k)∧v2[j]?=some b∧b.isNull=false∧a4Y eqv n a b
 | _+1,.real x,.real y=>eqv x y
 | _+1,.null,.null=>True
 | _+1,.bool a,.bool b=>a=b
 | _+1,.int a,.int b=>a=b
 | _+1,.str a,.str b=>a=b
 | _+1,.name a,.name b=>a=b
 | _+1,.ref a c,.ref b d=>a=b∧c=d
 | _+1,_,_=>False
def Corr (nn:Nat→Prop):Nat→PO→PV→Prop
 | 0,_,_=>False
 | n+1,.arr ps,.arr xs=>ps.length=xs.length∧∀(i:Nat) p x,ps[i]?=some p→xs[i]?=some x→Corr nn n p x
 | n+1,.dict ks ps,.dict keys xs=>keys.Nodup∧keys.length=xs.length∧ks.length=ps.length∧ks=((keys.zip xs).filter fun e=>!e.2.isNull).map (·.1)∧∀(i:Nat) k p,ks[i]?=some k→ps[i]?=some p→∃x,(k,x)∈keys.zip xs∧x.isNull=false∧Corr nn n p x
 | _+1,.real x,.real y=>x=y∧nn x
 | _+1,.null,.null=>True
 | _+1,.bool a,.bool b=>b=if a then 1 else 0
 | _+1,.int a,.int b=>a=b∧-2147483648≤a∧a≤2147483647
 | _+1,.lit s,.str b=>litF (40::(s++[41])) 0 []=some (b,[])
 | _+1,.hexl s,.str b=>(∀c∈s,0≤a0w (c.toNat:Int))∧hexF (s++[62]) false 0 [] false=(0,b,[],false)
 | _+1,.name a,.name b=>a=b∧∀c∈a,(c.toNat:Int)≠0
 | _+1,.ref a c,.ref b d=>a=b∧c=d∧0<a∧a≤2147483647∧0≤c∧c≤65535
 | _+1,_,_=>False
theorem b4n {α:Type}(d:α):∀(ks:List By) (ps:List α) (q:By),ks.length=ps.length→q∈ks→∃i:Nat,ks[i]?=some q∧ps[i]?=some (look d ks ps q):=by
 intro ks
 induction ks with
 | nil=>intro ps q _ h;simp at h
 | cons k ks ih =>
  intro ps q hl hq
  cases ps with
  | nil=>simp at hl
  | cons p ps =>
   by_cases hk:k=q
   ·exact⟨0,by simp[hk],by simp[look,hk]⟩
   ·rcases List.mem_cons.1 hq with e|e
    ·exact absurd e.symm hk
    ·obtain⟨i,h1,h2⟩:=ih ps q (by simpa using hl) e
     exact⟨i+1,by simpa using h1,by simpa[look,hk] using h2⟩
theorem a5d {k:By}{ks:List By} : k∈ks.mergeSort leBy↔k∈ks:=(List.mergeSort_perm ks leBy).mem_iff
theorem b5v {nn:Nat→Prop}{n:Nat}{p:PO}{x:PV}(h:Corr nn n p x):(valP (a1f p)).isNull=x.isNull:=by
 cases n with
 | zero=>simp[Corr]at h
 | succ n=>cases p<;>cases x<;>simp only[Corr]at h<;>first|exact h.elim|rfl
theorem b7g {l:List PV}(h:∀x∈l,x.isNull=false):nnz l=l.length:=by
 unfold nnz;rw[List.filter_eq_self.2 (by intro x hx;simp[h x hx])]
theorem b8i:∀(ks:List By) (xs:List PV),ks.length=xs.length→((ks.zip xs).filter fun e=>!e.2.isNull).length=nnz xs:=by
 intro ks
 induction ks with
 | nil=>intro xs h;cases xs with|nil=>rfl|cons _ _=>simp at h
 | cons k ks ih =>
  intro xs h
  cases xs with
  | nil=>simp at h
  | cons x xs =>
   have:=ih xs (by simpa using h);unfold nnz at this⊢
   cases hx:x.isNull<;>simp[hx,this]
theorem a5R {α:Type}[DecidableEq α]{l:List α}(h:l.Nodup){j:Nat}{k:α}(hj:l[j]?=some k):∀j',j'<j→l[j']?≠some k:=by
 intro j' hlt e;have h1:=(List.getElem?_eq_some_iff.1 hj);have h2:=(List.getElem?_eq_some_iff.1 e);have:=(List.getElem_inj (i:=j') (j:=j) (h₀:=h2.1) (h₁:=h1.1) h).1 (h2.2.trans h1.2.symm);omega
theorem Corr.same {nn:Nat→Prop}{eqv:Nat→Nat→Prop}(he:∀x,nn x→eqv x x):∀(n:Nat) (p:PO) (x:PV),Corr nn n p x→a4Y eqv n (valP (a1f p)) x:=by
 intro n
 induction n with
 | zero=>intro p x h;simp[Corr]at h
 | succ n ih =>
  intro p x h
  cases p<;>cases x<;>simp only[Corr]at h<;>try exact h.elim
  all_goals simp only[a1f,valP,a4Y]
  ·exact h.symm
  ·exact h.1
  ·exact h.1▸he _ h.2
  ·simp only[litT,h]
  ·simp only[hexT,h.2]
  ·exact h.1
  ·exact⟨h.1,h.2.1⟩
  ·rename_i ps xs
   rw[a8p,a2e];refine⟨by simpa using h.1,fun i a b ha hb=>?_⟩;rw[List.map_map,List.getElem?_map]at ha;obtain⟨p,hp,rfl⟩:=Option.map_eq_some_iff.1 ha;exact ih p b (h.2 i p b hp hb)
  ·rename_i ks ps keys xs
   obtain⟨hnd,hl1,hl2,hks,hall⟩:=h;rw[a8p,a2e]
   have hlk:∀k∈ks,∃x p,look PO.null ks (ps.map a1f) k=a1f p∧(k,x)∈keys.zip xs∧x.isNull=false∧Corr nn n p x:=by
    intro k hk;obtain⟨i,h1,h2⟩:=b4n (.null:PO) ks (ps.map a1f) k (by simpa using hl2) hk;rw[List.getElem?_map]at h2;obtain⟨p,hp,e⟩:=Option.map_eq_some_iff.1 h2;obtain⟨x,h3,h4,h5⟩:=hall i k p h1 hp;exact⟨x,p,e.symm,h3,h4,h5⟩
   refine⟨by simp,hl1,?_,fun i k a hk ha hna=>?_⟩
   ·rw[b7g,←b8i keys xs hl1]
    ·rw[List.length_map,List.length_map,List.length_mergeSort,hks,List.length_map]
    ·intro y hy
     rw[List.map_map,List.mem_map]at hy;obtain⟨k,hk,rfl⟩:=hy;rw[a5d]at hk;obtain⟨x,p,e,_,hx,hc⟩:=hlk k hk
     show (valP (look PO.null ks (ps.map a1f) k)).isNull=false
     rw[e,b5v hc,hx]
   ·have hk2:k∈ks:=a5d.1 (List.mem_of_getElem? hk)
    obtain⟨x,p,e,hmem,hx,hc⟩:=hlk k hk2;rw[List.map_map,List.getElem?_map,hk]at ha;have ha:valP (look PO.null ks (ps.map a1f) k)=a:=by simpa using ha
    rw[e]at ha;subst ha;obtain⟨j,hj⟩:=List.mem_iff_getElem?.1 hmem;rw[List.getElem?_zip_eq_some]at hj;exact⟨j,x,hj.1,a5R hnd hj.1,hj.2,hx,ih p x hc⟩
theorem a4r {pf:By→Nat}{n:Int}{t l:By}{o:Bool}{x:PV}{r:By}(h:refF pf n t l o=some (x,r,false)) :
  o = false ∧ ∃ la c : By, a0j false l false = (la, false) ∧ a0t la false = false ∧
   ((x=.int n∧r=l∧((numF pf (a0c la)).2.2.2=1∨a0j false (a0k la) false=(c,false)∧a0t c false=false∧a0p (a0c c) (· == 82)=false))
   ∨ (∃g,x=.ref n g∧r=a0k c∧a0j false (a0k la) false=(c,false)∧a0c c=[82]∧(numF pf (a0c la)).2.2.2=0∧(numF pf (a0c la)).1=2∧g=(numF pf (a0c la)).2.1∧n≠0∧g≤65535∧a0p (a0c la) a0F=true∧a0p t a0F=true∧a1W (l.take (l.length-(a0k c).length))=false)):=by
 have hp:=a1R l false o;simp only[refF]at h;generalize hA:a0j false l o=a at h hp;obtain⟨la,oa⟩:=a;have hw:=a2k la oa;simp only at h hp
 split at h
 ·rename_i h1
  simp at h h1;obtain⟨rfl,rfl,rfl,hob⟩:=h;have hoa:=hw hob;subst hoa;exact⟨rfl,la,[],hA,hob,.inl ⟨rfl,rfl,.inl h1⟩⟩
 ·rename_i h1
  have hp2:=a1R (a0k la) false (a0t la oa);generalize hC:a0j false (a0k la) (a0t la oa)=c at h hp2;obtain⟨c,oc⟩:=c;have hw2:=a2k c oc;simp only at h hp2
  split at h
  ·simp at h
   obtain⟨rfl,rfl,⟨rfl,hoc⟩,hh⟩:=h;have e1:=hw2 hoc;subst e1;have e2:=hp2 rfl;have e3:=hw e2;subst e3;rw[e2]at hC;exact⟨rfl,la,c,hA,e2,.inl ⟨rfl,rfl,.inr ⟨hC,hoc,hh⟩⟩⟩
  ·rename_i h2
   split at h
   ·simp at h
   ·rename_i h3
    simp at h;obtain⟨rfl,rfl,hoc,hpc⟩:=h;have e1:=hw2 hoc;subst e1;have e2:=hp2 rfl;have e3:=hw e2;subst e3;have e4:=hp rfl;subst e4;rw[e2]at hC;simp only[not_or,Decidable.not_not,Bool.not_eq_false]at h2;simp only[beq_iff_eq,not_or]at h3;exact⟨rfl,la,c,hA,e2,.inr ⟨_,rfl,rfl,hC,h2.1,h2.2.1,h2.2.2.1,rfl,h3.1,by omega,h2.2.2.2.1,h2.2.2.2.2,hpc⟩⟩
theorem b4X {pf:By→Nat}{n:Int}{t l:By}{o:Bool}{x:PV}{r:By}(h:refF pf n t l o=some (x,r,false)):o=false:=(a4r h).1
theorem a4q {pf:By→Nat}{l:By}{o:Bool}{x:PV}{r:By}(h:a1p pf l o=some (x,r,false)):o=false∧a0t l false=false:=by
 have key:a0t l o=false→o=false∧a0t l false=false:=by
  intro hw;have:=a2k l o hw;subst this;exact⟨rfl,hw⟩
 simp only[a1p]at h
 repeat' split at h
 all_goals first
  | (simp at h;exact key h.2.2)
  | (simp at h;done)
  | exact key (b4X h)
theorem a5Z {f:By→Bool→Rd PV}(hf:∀l o x r,f l o=some (x,r,false)→o=false):∀(m:Nat) (l:By) (o:Bool) (acc kids:List PV) (r:By),a1j f m l o acc=some (kids,r,false)→o=false:=by
 intro m
 induction m with
 | zero=>intro l o acc kids r h;simp[a1j]at h
 | succ m ih =>
  intro l o acc kids r h;have hp:=a1R l false o;simp only[a1j]at h;generalize a0j false l o=a at h hp;obtain⟨la,oa⟩:=a;simp only at h hp
  split at h
  ·simp at h
   exact hp h.2.2
  ·split at h
   ·simp at h
   ·rename_i x l2 o2 e
    have h2:=ih _ _ _ _ _ h;subst h2;exact hp (hf _ _ _ _ e)
theorem a4K {f:By→Bool→Rd PV}(hf:∀l o x r,f l o=some (x,r,false)→o=false):∀(m:Nat) (l:By) (o:Bool) (ks:List By) (acc:List PV) (res:List By×List PV) (r:By),a0A f m l o ks acc=some (res,r,false)→o=false:=by
 intro m
 induction m with
 | zero=>intro l o ks acc res r h;simp[a0A]at h
 | succ m ih =>
  intro l o ks acc res r h;have hp:=a1R l false o;simp only[a0A]at h;generalize a0j false l o=a at h hp;obtain⟨la,oa⟩:=a;have hw:=a2k la.tail oa;simp only at h hp
  split at h
  ·simp at h
   exact hp h.2.2
  ·split at h
   ·split at h
    ·simp at h
    ·split at h
     ·simp at h
     ·split at h
      ·simp at h
      ·rename_i x l2 o2 e
       have h2:=ih _ _ _ _ _ _ h;subst h2;exact hp (hw (hf _ _ _ _ e))
   ·simp at h
theorem a2d (pf:By→Nat):∀(n:Nat) (l:By) (o:Bool) (x:PV) (r:By),rdV pf n l o=some (x,r,false)→o=false:=by
 intro n
 induction n with
 | zero=>intro l o x r h;simp[rdV]at h
 | succ n ih =>
  intro l o x r h;have hp:=a1R l false o;simp only[rdV]at h;generalize a0j false l o=a at h hp;obtain⟨la,oa⟩:=a;simp only at h hp
  cases la with
  | nil=>simp at h
  | cons c la =>
   simp only at h
   split at h
   ·simp at h
    obtain⟨_,_,_,_,_,h⟩:=h;exact hp h
   ·split at h
    ·rw[Option.map_eq_some_iff]at h
     obtain⟨⟨q,r1,o1⟩,e,h⟩:=h;simp at h;obtain⟨_,rfl,rfl⟩:=h;exact hp (a4K ih _ _ _ _ _ _ _ e)
    ·split at h
     ·split at h
      ·simp at h
       exact hp (a6Y _ _ _ _ _ h.2.2)
      ·simp at h
     ·split at h
      ·simp at h
       obtain⟨_,_,_,_,h⟩:=h;exact hp (a2k _ _ h)
      ·split at h
       ·rw[Option.map_eq_some_iff]at h
        obtain⟨⟨q,r1,o1⟩,e,h⟩:=h;simp at h;obtain⟨_,rfl,rfl⟩:=h;exact hp (a5Z ih _ _ _ _ _ _ e)
       ·split at h
        ·simp at h
        ·exact hp (a4q h).1
theorem a2M {pf:By→Nat}{n:Nat}{l:By}{o:Bool}{x:PV}{r:By}(h:rdV pf (n+1) l o=some (x,r,false)) :
  o = false ∧ ∃ c l1, a0j false l false = (c :: l1, false) ∧ a0h (c.toNat : Int) = false ∧ (c.toNat : Int) ≠ 37 ∧
   (((c.toNat:Int)=40∧∃t,litF (c::l1) 0 []=some (t,r)∧x=.str t)
   ∨ ((c.toNat:Int)=60∧∃l2,l1=60::l2∧∃ks vs,a0A (rdV pf n) l2.length l2 false [] []=some ((ks,vs),r,false)∧x=.dict ks vs)
   ∨ ((c.toNat:Int)=60∧is2 (c::l1) 60=false∧∃t,hexF l1 false 0 [] false=(0,t,r,false)∧x=.str t)
   ∨ ((c.toNat:Int)=47∧∃k,a0R (a0c l1) []=some k∧r=a0k l1∧a0t l1 false=false∧x=.name k)
   ∨ ((c.toNat:Int)=91∧∃kids,a1j (rdV pf n) l1.length l1 false []=some (kids,r,false)∧x=.arr kids)
   ∨ (a0U (c.toNat:Int)=false∧a1p pf (c::l1) false=some (x,r,false))):=by
 have ho:=a2d pf _ _ _ _ _ h;subst ho;refine⟨rfl,?_⟩;have hp:=a1R l false false;have hhd:=a3E l false false;simp only[rdV]at h;generalize a0j false l false=a at h hp hhd;obtain⟨la,oa⟩:=a;simp only at h hp hhd
 cases la with
 | nil=>simp at h
 | cons c la =>
  obtain⟨hw,h37⟩:=hhd c (by simp);simp only at h
  split at h
  ·rename_i h40
   simp at h h40;obtain⟨t,r1,e,rfl,rfl,rfl⟩:=h;exact⟨c,la,rfl,hw,h37,.inl ⟨h40,t,e,rfl⟩⟩
  ·split at h
   ·rename_i h60
    rw[Option.map_eq_some_iff]at h;obtain⟨⟨q,r1,o1⟩,e,h⟩:=h;simp at h;obtain⟨rfl,rfl,rfl⟩:=h;have e1:=a4K (a2d pf n) _ _ _ _ _ _ _ e;subst e1
    cases la with
    | nil=>simp[is2]at h60
    | cons d la =>
     simp[is2]at h60;have hd:d=60:=by apply UInt8.toNat_inj.1;have:=h60.2;simp;omega
     subst hd;exact⟨c,_,rfl,hw,h37,.inr (.inl ⟨h60.1,la,rfl,q.1,q.2,e,rfl⟩)⟩
   ·rename_i hn60
    split at h
    ·rename_i h60
     split at h
     ·rename_i hh
      simp at h hh h60;obtain⟨rfl,rfl,ho2⟩:=h;have e1:=a6Y _ _ _ _ _ ho2;subst e1;refine⟨c,la,rfl,hw,h37,.inr (.inr (.inl ⟨h60,by simpa using hn60,_,?_,rfl⟩))⟩;exact Prod.ext hh (Prod.ext rfl (Prod.ext rfl ho2))
     ·simp at h
    ·split at h
     ·rename_i h47
      simp at h h47;obtain⟨k,e,rfl,rfl,ho2⟩:=h;have e1:=a2k _ _ ho2;subst e1;exact⟨c,la,rfl,hw,h37,.inr (.inr (.inr (.inl ⟨h47,k,e,rfl,ho2,rfl⟩)))⟩
     ·split at h
      ·rename_i h91
       rw[Option.map_eq_some_iff]at h;obtain⟨⟨q,r1,o1⟩,e,h⟩:=h;simp at h h91;obtain⟨rfl,rfl,rfl⟩:=h;have e1:=a5Z (a2d pf n) _ _ _ _ _ _ e;subst e1;exact⟨c,la,rfl,hw,h37,.inr (.inr (.inr (.inr (.inl ⟨h91,q,e,rfl⟩))))⟩
      ·split at h
       ·simp at h
       ·rename_i hd
        have e1:=(a4q h).1;subst e1;exact⟨c,la,rfl,hw,h37,.inr (.inr (.inr (.inr (.inr ⟨by simpa using hd,h⟩))))⟩
theorem a4j:∀(l:By) (d p a:Int) (r:Int×Int×Int),a0l l d p a=some r→∀c∈l,a0F (c.toNat:Int)=true∨(c.toNat:Int)=46:=by
 intro l
 induction l with
 | nil=>intro d p a r _ c hc;simp at hc
 | cons e l ih =>
  intro d p a r h c hc;simp only[a0l]at h
  split at h
  ·rename_i hd
   rcases List.mem_cons.1 hc with rfl|hc
   ·exact .inl hd
   ·exact ih _ _ _ _ h c hc
  ·split at h
   ·rename_i hp
    rcases List.mem_cons.1 hc with rfl|hc
    ·exact .inr (by simpa using hp)
    ·exact ih _ _ _ _ h c hc
   ·simp at h
theorem a3s:∀(l:By) (d p a:Int) (D P A:Int),a0l l d p a=some (D,P,A)→d≤D∧p≤P∧a≤A:=by
 intro l
 induction l with
 | nil=>intro d p a D P A h;simp[a0l]at h;omega
 | cons e l ih =>
  intro d p a D P A h;simp only[a0l]at h
  split at h
  ·have:=ih _ _ _ _ _ _ h
   split at this<;>omega
  ·split at h
   ·have:=ih _ _ _ _ _ _ h
    omega
   ·simp at h
theorem a3l (c:UInt8):a0F (c.toNat:Int)=true↔48≤c.toNat∧c.toNat≤57:=by
 simp[a0F];omega
theorem b2r:∀(l:By) (d:Int) (a:Nat) (acc:Nat) (D A:Int),a0l l d 0 a=some (D,1,A)→A≤14→acc<10^a→Lib.parseUint10 acc l=Lib.parseMag []:=by
 intro l
 induction l with
 | nil=>intro d a acc D A h;simp[a0l]at h
 | cons c l ih =>
  intro d a acc D A h hA hacc;have hm:=a3s _ _ _ _ _ _ _ h;simp only[a0l]at h
  by_cases hd:a0F (c.toNat:Int)=true
  ·rw[if_pos hd]at h
   simp only[beq_self_eq_true,if_true]at h;have hm2:=a3s _ _ _ _ _ _ _ h;have hc:=(a3l c).1 hd;have ha:a≤13:=by omega
   have h10:(10:Nat)^a≤10^13:=Nat.pow_le_pow_right (by omega) ha;have h13:(10:Nat)^13=10000000000000:=by decide
   unfold Lib.parseUint10;rw[if_pos hc,if_neg (by omega),if_neg (by omega)];refine ih (d+1) (a+1) _ D A (by exact_mod_cast h) hA ?_;rw[Nat.pow_succ];omega
  ·rw[if_neg hd]at h
   unfold Lib.parseUint10;rw[if_neg (fun e=>hd ((a3l c).2 e))];rfl
theorem b4z:∀(l:By) (acc u:Nat),Lib.parseUint10 acc l=.ok u→∀c∈l,a0F (c.toNat:Int)=true:=by
 intro l
 induction l with
 | nil=>intro acc u _ c hc;simp at hc
 | cons e l ih =>
  intro acc u h c hc;unfold Lib.parseUint10 at h
  split at h
  ·rename_i he
   split at h
   ·cases h
   ·split at h
    ·cases h
    ·rcases List.mem_cons.1 hc with rfl|hc
     ·exact(a3l c).2 he
     ·exact ih _ _ h c hc
  ·cases h
theorem a2a (c:UInt8)(l:By):a0i (c::l)=(if c.toNat=43∨c.toNat=45 then l else c::l):=by
 simp only[a0i]
 by_cases h:c.toNat=43∨c.toNat=45
 ·rw[if_pos h,if_pos]
  simp only[beq_iff_eq];omega
 ·rw[if_neg h,if_neg]
  simp only[beq_iff_eq];omega
theorem b1i {l:By}{v:Int}(h:Lib.atoiAll l=.ok v):(∀c∈a0i l,a0F (c.toNat:Int)=true)∧a0i l≠[]:=by
 cases l with
 | nil=>simp[Lib.atoiAll]at h
 | cons c l =>
  rw[a2a];simp only[Lib.atoiAll]at h;generalize (if c.toNat=43∨c.toNat=45 then l else c::l)=s at h⊢
  cases hp:Lib.parseMag s with
  | range=>rw[hp]at h;cases h
  | ok u =>
   unfold Lib.parseMag at hp
   split at hp
   ·cases hp
   ·rename_i hs
    exact⟨b4z s 0 u hp,hs⟩
  | _=>rw[hp]at h;cases h
theorem a3r:∀(l:By) (d a:Int),(∀c∈l,a0F (c.toNat:Int)=true)→a0l l d 0 a=some (d+l.length,0,a+l.length):=by
 intro l
 induction l with
 | nil=>intro d a _;simp[a0l]
 | cons c l ih =>
  intro d a h;simp only[a0l,h c (by simp),if_true,beq_self_eq_true];rw[ih _ _ (fun e he=>h e (by simp[he]))];simp;omega
theorem a6o {pf:By→Nat}{l:By}{v:Int}(h:Lib.atoiAll l=.ok v):(numF pf l).2.2.2≠1:=by
 obtain⟨h1,h2⟩:=b1i h;have hl:=List.length_pos_iff.2 h2;unfold numF;rw[a3r _ _ _ h1,h];simp only
 repeat' split
 all_goals first
  | (simp;done)
  | (rename_i hh;simp only[beq_iff_eq]at hh;omega)
theorem a7T {pf:By→Nat}{l:By}(h0:(numF pf l).2.2.2=0)(h2:(numF pf l).1=2):Lib.atoiAll l=.ok (numF pf l).2.1∧-2147483648≤(numF pf l).2.1∧(numF pf l).2.1≤2147483647:=by
 unfold numF at h0 h2⊢
 cases hn:a0l (a0i l) 0 0 0 with
 | none=>rw[hn]at h0;simp at h0
 | some r =>
  obtain⟨d,p,a⟩:=r;rw[hn]at h0 h2;simp only at h0 h2⊢
  split
  ·rename_i hh;rw[if_pos hh]at h0;simp at h0
  ·rename_i hh
   rw[if_neg hh]at h0 h2
   split
   ·rename_i hh2;rw[if_pos hh2]at h0;simp at h0
   ·rename_i hh2
    rw[if_neg hh2]at h0 h2
    split
    ·rename_i hh3;rw[if_pos hh3]at h2;simp at h2
    ·rename_i hh3
     rw[if_neg hh3]at h0 h2
     cases ha:Lib.atoiAll l with
     | range=>rw[ha]at h0;simp at h0
     | ok n =>
      rw[ha]at h0;simp only at h0⊢
      split
      ·rename_i hh4;rw[if_pos hh4]at h0;simp at h0
      ·rename_i hh4
       exact⟨rfl,by simp only;omega,by simp only;omega⟩
     | _=>rw[ha]at h0;simp at h0
theorem a7g {pf:By→Nat}{l:By}(h0:(numF pf l).2.2.2=0):(numF pf l).1=2∨(numF pf l).1=3:=by
 unfold numF at h0⊢
 cases hn:a0l (a0i l) 0 0 0 with
 | none=>rw[hn]at h0;simp at h0
 | some r =>
  obtain⟨d,p,a⟩:=r;rw[hn]at h0;simp only at h0⊢
  split
  ·rename_i hh;rw[if_pos hh]at h0;simp at h0
  ·rename_i hh
   rw[if_neg hh]at h0
   split
   ·rename_i hh2;rw[if_pos hh2]at h0;simp at h0
   ·rename_i hh2
    rw[if_neg hh2]at h0
    split
    ·exact .inr rfl
    ·rename_i hh3
     rw[if_neg hh3]at h0
     cases ha:Lib.atoiAll l with
     | range=>rw[ha]at h0;simp at h0
     | ok n =>
      rw[ha]at h0;simp only at h0⊢
      split
      ·rename_i hh4;rw[if_pos hh4]at h0;simp at h0
      ·exact .inl rfl
     | _=>rw[ha]at h0;simp at h0
theorem a3D {pf:By→Nat}{l:By}(h0:(numF pf l).2.2.2=0)(h3:(numF pf l).1=3):Lib.atoiAll l=Lib.atoiAll []∧a1q l∧(numF pf l).2.2.1=pf l:=by
 unfold numF at h0 h3⊢
 cases hn:a0l (a0i l) 0 0 0 with
 | none=>rw[hn]at h0;simp at h0
 | some r =>
  obtain⟨d,p,a⟩:=r;rw[hn]at h0 h3;simp only at h0 h3⊢
  by_cases hh:(d==0)=true∨1<p
  ·rw[if_pos hh]at h0;simp at h0
  ·rw[if_neg hh]at h0 h3⊢
   by_cases hh2:14<a∨60<d
   ·rw[if_pos hh2]at h0;simp at h0
   ·rw[if_neg hh2]at h0 h3⊢
    by_cases hh3:(p==1)=true
    ·rw[if_pos hh3]
     simp only[beq_iff_eq]at hh hh3;subst hh3;have hm:=a3s _ _ _ _ _ _ _ hn;refine⟨?_,⟨d,a,hn,by omega,by omega,by omega⟩,rfl⟩
     cases l with
     | nil=>rfl
     | cons c l =>
      simp only[Lib.atoiAll];rw[a2a]at hn;generalize (if c.toNat=43∨c.toNat=45 then l else c::l)=s at hn⊢
      have:Lib.parseMag s=Lib.parseMag []:=by
       rw[show Lib.parseMag s=if s=[] then Lib.parseMag [] else Lib.parseUint10 0 s from rfl]
       split
       ·rfl
       ·exact b2r s 0 0 0 d a (by simpa using hn) (by omega) (by decide)
      rw[this];rfl
    ·rw[if_neg hh3]at h3
     cases ha:Lib.atoiAll l with
     | range=>rw[ha]at h3;simp at h3
     | ok n =>
      rw[ha]at h3;simp only at h3
      split at h3<;>simp at h3
     | _=>rw[ha]at h3;simp at h3
theorem a5S {pf:By→Nat}{l:By}(h:(numF pf l).2.2.2≠1):∀c∈a0i l,a0F (c.toNat:Int)=true∨(c.toNat:Int)=46:=by
 unfold numF at h
 cases hn:a0l (a0i l) 0 0 0 with
 | none=>rw[hn]at h;simp at h
 | some r=>exact a4j _ _ _ _ _ hn
theorem b4s {pf:By→Nat}{c:UInt8}{l:By}(h:(numF pf (c::l)).2.2.2≠1):(c.toNat:Int)=43∨(c.toNat:Int)=45∨(c.toNat:Int)=46∨48≤(c.toNat:Int)∧(c.toNat:Int)≤57:=by
 have h1:=a5S h;simp only[a0i]at h1
 split at h1
 ·rename_i hc;simp at hc;omega
 ·have:=h1 c (by simp)
  simp[a0F]at this;omega
theorem b0n {l:By}{v:Int}(h:Lib.atoiAll l=.ok v):∀c∈l,(c.toNat:Int)≠37:=by
 intro c hc;have h1:=(b1i h).1
 cases l with
 | nil=>simp at hc
 | cons d l =>
  simp only[a0i]at h1
  split at h1
  ·rename_i hd
   rcases List.mem_cons.1 hc with rfl|hc
   ·simp at hd;omega
   ·have:=h1 c hc
    simp[a0F]at this;omega
  ·have:=h1 c hc
   simp[a0F]at this;omega
def bs (l:By):ByteArray:=⟨l.toArray⟩
theorem a0f (l:By):(bs l).size=l.length:=by simp[bs,ByteArray.size]
theorem a1D (l:By):(bs l).data.toList=l:=by simp[bs]
theorem c1B (s:ByteArray):s=bs s.data.toList:=by simp[bs]
theorem a1B (l:By)(i j:Nat):(bs l).extract i j=bs ((l.take j).drop i):=by
 apply ByteArray.ext
 show _=_
 simp only[bs,ByteArray.data_extract];apply Array.ext';simp[List.extract_eq_take_drop,List.drop_take]
theorem a2u (l:By)(i:Nat):(bs l).extract i l.length=bs (l.drop i):=by rw[a1B,List.take_length]
theorem a3U (l:By)(j:Nat):(bs l).extract 0 j=bs (l.take j):=by rw[a1B,List.drop_zero]
theorem a1G (pre:By)(c:UInt8)(l:By)(hc:(c.toNat:Int)<128):Utf8.decode (bs (pre++c::l)) pre.length=(c.toNat,1):=by
 have h:pre.length<(bs (pre++c::l)).size:=by rw[a0f];simp
 have e:(bs (pre++c::l))[pre.length]'h=c:=by
  simp[bs,ByteArray.getElem_eq_getElem_data]
 rw[decode_ascii _ _ h (by rw[e];omega),e]
theorem a7L (p:Nat→Bool)(q:UInt8→Bool):∀(l pre:By) (f:Nat),l.length≤f→(∀c∈l.takeWhile q,(c.toNat:Int)<128∧p c.toNat=true)→(∀c∈(l.dropWhile q).head?,(c.toNat:Int)<128∧p c.toNat=false) →
  Lib.idxFuncFrom p false (bs (pre++l)) f pre.length=if l.dropWhile q=[] then -1 else ((pre.length+(l.takeWhile q).length:Nat):Int):=by
 intro l
 induction l with
 | nil =>
  intro pre f _ _ _;rw[Lib.idxFuncFrom_end _ _ _ _ _ (by rw[a0f];simp)];simp
 | cons c l ih =>
  intro pre f hf h1 h2;obtain⟨f,rfl⟩:∃f',f=f'+1:=⟨f-1,by simp at hf;omega⟩;have hlt:pre.length<(bs (pre++c::l)).size:=by rw[a0f];simp
  by_cases hq:q c=true
  ·have hc:=h1 c (by simp[hq])
   simp only[Lib.idxFuncFrom,if_pos hlt,a1G pre c l hc.1,hc.2];rw[if_neg (by simp)];have:=ih (pre++[c]) f (by simp at hf;omega) (fun d hd=>h1 d (by simp[hq,hd])) (by simpa[hq] using h2);simp only[List.append_assoc,List.singleton_append,List.length_append,List.length_singleton]at this;rw[this];simp only[List.dropWhile_cons,List.takeWhile_cons,hq,if_true,List.length_cons]
   split
   ·rfl
   ·congr 1;omega
  ·have hc:=h2 c (by simp[hq])
   simp only[Lib.idxFuncFrom,if_pos hlt,a1G pre c l hc.1,hc.2,if_true];simp[hq]
theorem a3T (p:Nat→Bool)(q:UInt8→Bool)(l:By)(h1:∀c∈l.takeWhile q,(c.toNat:Int)<128∧p c.toNat=true)(h2:∀c∈(l.dropWhile q).head?,(c.toNat:Int)<128∧p c.toNat=false) :
  Lib.trimLeftF p (bs l)=bs (l.dropWhile q):=by
 have h:=a7L p q l [] l.length (Nat.le_refl _) h1 h2;simp only[List.nil_append,List.length_nil,Nat.zero_add]at h;unfold Lib.trimLeftF Lib.idxFunc;rw[a0f,h];have hs:l.takeWhile q++l.dropWhile q=l:=List.takeWhile_append_dropWhile
 by_cases e0:l.dropWhile q=[]
 ·rw[if_pos e0,e0];rfl
 ·rw[if_neg e0,if_neg (by omega),Int.toNat_natCast,a2u]
  have:l.drop (l.takeWhile q).length=l.dropWhile q:=by
   calc l.drop (l.takeWhile q).length=(l.takeWhile q++l.dropWhile q).drop (l.takeWhile q).length:=by rw[hs]
    _=l.dropWhile q:=List.drop_left
  rw[this]
open Go Go.RowKit
def ipT (L:By)(dp:Int):By:=if 0<dp then L.take dp.toNat++List.replicate (dp.toNat-L.length) 48 else [48]
def lzT (dp:Int):Nat:=min 12 (-dp).toNat
def mdT (L:By)(dp:Int):Nat:=min (12-lzT dp) (L.length-(dp+lzT dp).toNat)
def frT (L:By)(dp:Int):By:=List.replicate (lzT dp) 48++((L.drop (dp+lzT dp).toNat).take (mdT L dp)++List.replicate (12-lzT dp-mdT L dp) 48)
def ftxt (neg:Bool)(L:By)(dp:Int):By:=(if neg then [45] else [])++(ipT L dp++46::frT L dp)
theorem b1R {L:By}(h:isDs L)(n:Nat):isDs (L.take n):=fun c hc=>h c (List.mem_of_mem_take hc)
theorem b6U {L:By}(h:isDs L)(n:Nat):isDs (L.drop n):=fun c hc=>h c (List.mem_of_mem_drop hc)
theorem a8F {a b:By}(ha:isDs a)(hb:isDs b):isDs (a++b):=fun c hc=>by
 rcases List.mem_append.1 hc with h|h
 ·exact ha c h
 ·exact hb c h
theorem a8G (n:Nat):isDs (List.replicate n 48):=fun c hc=>by
 obtain⟨_,rfl⟩:=List.mem_replicate.1 hc;decide
theorem b8R {L:By}(h:isDs L)(dp:Int):isDs (ipT L dp):=by
 unfold ipT
 split
 ·exact a8F (b1R h _) (a8G _)
 ·intro c hc;simp at hc;subst hc;decide
theorem b8I {L:By}(h:isDs L)(dp:Int):isDs (frT L dp):=a8F (a8G _) (a8F (b1R (b6U h _) _) (a8G _))
theorem b1P {L:By}{dp:Int}(h:dp≤14):1≤(ipT L dp).length∧(ipT L dp).length≤14:=by
 unfold ipT
 split
 ·rw[List.length_append,List.length_take,List.length_replicate];omega
 ·simp
theorem b1G (L:By)(dp:Int):(frT L dp).length=12:=by
 unfold frT;rw[List.length_append,List.length_append,List.length_take,List.length_drop,List.length_replicate,List.length_replicate];unfold mdT lzT;omega
theorem b2X:∀(l:By),isDs l→∀(r:By) (d p a:Int),a0l (l++r) d p a=a0l r (d+l.length) p (if p==0 then a+l.length else a):=by
 intro l
 induction l with
 | nil=>intro _ r d p a;simp
 | cons c l ih =>
  intro h r d p a;have hc:=h c (by simp);have hd:a0F (c.toNat:Int)=true:=by simp[a0F];omega
  rw[List.cons_append];simp only[a0l,hd,if_true];rw[ih (fun e he=>h e (by simp[he]))];have e1:d+1+(l.length:Int)=d+((c::l).length:Nat):=by simp;omega
  rw[e1];congr 1
  by_cases hp:(p==0)=true
  ·rw[if_pos hp,if_pos hp,if_pos hp];simp;omega
  ·rw[if_neg hp,if_neg hp,if_neg hp]
theorem b5b {i f:By}(hi:isDs i)(hf:isDs f):a0l (i++46::f) 0 0 0=some (((i.length+f.length:Nat):Int),1,(i.length:Int)):=by
 rw[b2X i hi];simp only[beq_self_eq_true,if_true]
 have e:a0l (46::f) (0+(i.length:Int)) 0 (0+(i.length:Int))=a0l (f++[]) (0+(i.length:Int)) 1 (0+(i.length:Int)):=by
  rw[List.append_nil];have h1:a0F ((46:UInt8).toNat:Int)=false:=by decide
  simp only[a0l,h1];rfl
 rw[e,b2X f hf];have h2:((1:Int)==0)=false:=by decide
 simp only[a0l,h2];simp
theorem a8C {L:By}(h:isDs L){dp:Int}(hdp:dp≤14)(neg:Bool):a1q (ftxt neg L dp):=by
 have hi:=b8R h dp;have hf:=b8I h dp;have l1:=b1P (L:=L) hdp;have l2:=b1G L dp
 have hst:a0i (ftxt neg L dp)=ipT L dp++46::frT L dp:=by
  unfold ftxt
  cases neg
  ·simp only[Bool.false_eq_true,if_false,List.nil_append]
   generalize ipT L dp=i at *
   cases i with
   | nil=>simp at l1
   | cons c i =>
    have:=hi c (by simp);rw[List.cons_append,a2a,if_neg (by omega)]
  ·simp only[if_true,List.cons_append,List.nil_append]
   rw[a2a,if_pos (by decide)]
 exact⟨_,_,by rw[hst];exact b5b hi hf,by omega,by omega,by omega⟩
end Go.Proofs.YtfkecmlmnhbmoaaGreatDoor
