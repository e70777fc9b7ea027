/- Parts F1 F2 F3 P2 A5 A6. -/
import Derived.Test.YtfkecmlmnhbmoaaGreatDoorW3
set_option linter.unusedVariables false
set_option linter.unusedSimpArgs false
set_option maxRecDepth 100000
set_option maxHeartbeats 40000000
namespace Go.Proofs.YtfkecmlmnhbmoaaGreatDoor
def numD (n:Nat):Nat:=if h:n=0 then 0 else numD (n/10)+1
termination_by n
decreasing_by omega
theorem numD_zero:numD 0=0:=by rw[numD];simp
theorem numD_pos {n:Nat}(h:n≠0):numD n=numD (n/10)+1:=by rw[numD];simp[h]
theorem numD_lt:∀(n:Nat),n<10^numD n:=by
 intro n
 induction n using Nat.strongRecOn with
 | _ n ih =>
  by_cases h:n=0
  ·subst h;rw[numD_zero];decide
  ·rw[numD_pos h,Nat.pow_succ]
   have:=ih (n/10) (by omega);omega
theorem numD_le:∀(n:Nat),n≠0→10^(numD n-1)≤n:=by
 intro n
 induction n using Nat.strongRecOn with
 | _ n ih =>
  intro h;rw[numD_pos h]
  by_cases h2:n/10=0
  ·rw[h2,numD_zero];simp;omega
  ·have h3:=ih (n/10) (by omega) h2
   have h4:numD (n/10)=numD (n/10/10)+1:=numD_pos h2;rw[h4]at h3⊢;simp only[Nat.add_sub_cancel]at h3⊢;rw[Nat.pow_succ];omega
theorem numD_pos1 {n:Nat}(h:n≠0):1≤numD n:=by rw[numD_pos h];omega
theorem pow10_pos (m:Nat):0<10^m:=Nat.pow_pos (by decide)
theorem pow10_le {a b:Nat}(h:a≤b):10^a≤10^b:=Nat.pow_le_pow_right (by decide) h
theorem pow10_lt {a b:Nat}(h:10^a<10^b):a<b:=by
 by_cases hh:a<b
 ·exact hh
 ·have:=pow10_le (a:=b) (b:=a) (by omega);omega
theorem numD_le_of {n m:Nat}(h:n<10^m):numD n≤m:=by
 by_cases h0:n=0
 ·subst h0;rw[numD_zero];omega
 ·have h1:=numD_le n h0
  have:=pow10_lt (Nat.lt_of_le_of_lt h1 h);omega
theorem numD_ge_of {n m:Nat}(h:10^m≤n):m+1≤numD n:=by
 have h1:=numD_lt n;have:=pow10_lt (Nat.lt_of_le_of_lt h h1);omega
theorem numD_eq {n m:Nat}(h1:10^m≤n)(h2:n<10^(m+1)):numD n=m+1:=by
 have:=numD_le_of h2;have:=numD_ge_of h1;omega
theorem numD_mono {a b:Nat}(h:a≤b):numD a≤numD b:=numD_le_of (Nat.lt_of_le_of_lt h (numD_lt b))
def strip (n:Nat):Nat:=if h:n≠0∧n%10=0 then strip (n/10) else n
termination_by n
decreasing_by omega
theorem strip_step {n:Nat}(h0:n≠0)(h:n%10=0):strip n=strip (n/10):=by rw[strip];simp[h0,h]
theorem strip_stop {n:Nat}(h:n%10≠0):strip n=n:=by rw[strip];simp[h]
theorem strip_spec:∀(n:Nat),n≠0→∃j,n=strip n*10^j∧strip n≠0∧numD n=numD (strip n)+j∧strip n%10≠0:=by
 intro n
 induction n using Nat.strongRecOn with
 | _ n ih =>
  intro h
  by_cases h2:n%10=0
  ·obtain⟨j,h3,h4,h5,h6⟩:=ih (n/10) (by omega) (by omega)
   rw[strip_step h h2];refine⟨j+1,?_,h4,?_,h6⟩
   ·rw[Nat.pow_succ,←Nat.mul_assoc,←h3];omega
   ·rw[numD_pos h,h5];omega
  ·exact⟨0,by rw[strip_stop h2];omega,by rw[strip_stop h2];exact h,by rw[strip_stop h2];omega,by rw[strip_stop h2];exact h2⟩
theorem strip_pos {n:Nat}(h:n≠0):strip n≠0:=by obtain⟨j,_,h2,_⟩:=strip_spec n h;exact h2
theorem strip_numD {n:Nat}(h:n≠0):numD (strip n)≤numD n:=by obtain⟨j,_,_,h3,_⟩:=strip_spec n h;omega
theorem strip_lead {n c:Nat}(h:n≠0):n<c*10^(numD n-1)↔strip n<c*10^(numD (strip n)-1):=by
 obtain⟨j,h1,h2,h3,_⟩:=strip_spec n h;have h4:=numD_pos1 h2
 have e:c*10^(numD n-1)=c*10^(numD (strip n)-1)*10^j:=by
  rw[h3,show numD (strip n)+j-1=(numD (strip n)-1)+j by omega,Nat.pow_add,Nat.mul_assoc]
 rw[e];generalize strip n=m at *;rw[show n=m*10^j from h1];exact Nat.mul_lt_mul_right (pow10_pos j)
theorem numD_mul_lt {n a c:Nat}(h:a<10^c):numD (n*a)≤numD n+c:=by
 apply numD_le_of;rw[Nat.pow_add];have h1:=numD_lt n
 by_cases h0:n=0
 ·subst h0;simp;exact Nat.mul_pos (pow10_pos _) (pow10_pos _)
 ·calc n*a<n*10^c:=Nat.mul_lt_mul_of_pos_left h (by omega)
   _≤10^numD n*10^c:=Nat.mul_le_mul_right _ (Nat.le_of_lt h1)
theorem numD_mul_ge {n a c:Nat}(h0:n≠0)(h:10^c≤a):numD n+c≤numD (n*a):=by
 have h1:=numD_le n h0;have h2:=numD_pos1 h0;have h3:10^(numD n-1+c)≤n*a:=by rw[Nat.pow_add];exact Nat.mul_le_mul h1 h
 have:=numD_ge_of h3;omega
def rsN (k n:Nat):Nat:=strip (n*5^k)
def rsP (k n:Nat)(dp:Int):Int:=dp+numD (n*5^k)-numD n-k
def lsN (k n:Nat):Nat:=strip (n*2^k)
def lsP (k n:Nat)(dp:Int):Int:=dp+numD (n*2^k)-numD n
theorem rsN_pos {k n:Nat}(h:n≠0):rsN k n≠0:=strip_pos (Nat.mul_ne_zero h (Nat.pos_iff_ne_zero.1 (Nat.pow_pos (by decide))))
theorem lsN_pos {k n:Nat}(h:n≠0):lsN k n≠0:=strip_pos (Nat.mul_ne_zero h (Nat.pos_iff_ne_zero.1 (Nat.pow_pos (by decide))))
theorem pow5_ne (k:Nat):5^k≠0:=Nat.pos_iff_ne_zero.1 (Nat.pow_pos (by decide))
theorem pow2_ne (k:Nat):2^k≠0:=Nat.pos_iff_ne_zero.1 (Nat.pow_pos (by decide))
theorem rsN_numD {k n:Nat}(h:n≠0):numD (rsN k n)≤numD n+k:=by
 refine Nat.le_trans (strip_numD (Nat.mul_ne_zero h (pow5_ne k))) ?_
 by_cases hk:k=0
 ·subst hk;simp
 ·exact numD_mul_lt (Nat.pow_lt_pow_left (by decide) hk)
theorem lsN_numD {k n:Nat}(h:n≠0):numD (lsN k n)≤numD n+k:=by
 refine Nat.le_trans (strip_numD (Nat.mul_ne_zero h (pow2_ne k))) ?_
 by_cases hk:k=0
 ·subst hk;simp
 ·exact numD_mul_lt (Nat.pow_lt_pow_left (by decide) hk)
theorem rsP_le {k n c:Nat}{dp:Int}(h:5^k<10^c):rsP k n dp≤dp+c-k:=by
 have:=numD_mul_lt (n:=n) h;unfold rsP;omega
theorem lsP_le {k n c:Nat}{dp:Int}(h:2^k<10^c):lsP k n dp≤dp+c:=by
 have:=numD_mul_lt (n:=n) h;unfold lsP;omega
theorem lsP_ge {k n c:Nat}{dp:Int}(h0:n≠0)(h:10^c≤2^k):dp+c≤lsP k n dp:=by
 have:=numD_mul_ge h0 h;unfold lsP;omega
def ledB (n c:Nat):Bool:=decide (n<c*10^(numD n-1))
def ptab:Int→Nat
 | 0=>1|1=>3|2=>6|3=>9|4=>13|5=>16|6=>19|7=>23|8=>26|_=>27
def dnL:Nat→Nat→Int→Int→Nat×Int×Int
 | 0,n,dp,ex=>(n,dp,ex)
 | m+1,n,dp,ex=>if 0<dp then dnL m (rsN (ptab dp) n) (rsP (ptab dp) n dp) (ex+ptab dp) else (n,dp,ex)
def potD (n:Nat)(dp:Int):Nat:=if dp≤0 then 0 else if dp=1 then (if ledB n 8 then 3 else 6) else if dp≤8 then 32 else 59
theorem ptab_big {dp:Int}(h:9≤dp):ptab dp=27:=by
 unfold ptab;split<;>first|rfl|omega
theorem potD_step {n:Nat}{dp:Int}(h0:n≠0)(h:0<dp)(h2:dp≤16):potD (rsN (ptab dp) n) (rsP (ptab dp) n dp)+ptab dp≤potD n dp∧1≤ptab dp∧rsP (ptab dp) n dp≤dp:=by
 have p1:∀m,potD m 1≤6:=by intro m;unfold potD;simp;split<;>omega
 have p6:∀m (d:Int),d≤1→potD m d≤6:=by
  intro m d hd
  by_cases e:d=1
  ·subst e;exact p1 m
  ·unfold potD;rw[if_pos (by omega)];omega
 have p32:∀m (d:Int),d≤8→potD m d≤32:=by
  intro m d hd;unfold potD
  repeat' split
  all_goals omega
 by_cases h9:9≤dp
 ·rw[ptab_big h9]
  have e:=rsP_le (n:=n) (dp:=dp) (k:=27) (c:=19) (by decide);have:=p32 (rsN 27 n) (rsP 27 n dp) (by omega);have e2:potD n dp=59:=by unfold potD;rw[if_neg (by omega),if_neg (by omega),if_neg (by omega)]
  exact⟨by omega,by omega,by omega⟩
 ·have hc : dp = 1 ∨ dp = 2 ∨ dp = 3 ∨ dp = 4 ∨ dp = 5 ∨ dp = 6 ∨ dp = 7 ∨ dp = 8 := by omega
  rcases hc with e|e|e|e|e|e|e|e
  ·subst e
   have e1:=rsP_le (n:=n) (dp:=1) (k:=3) (c:=3) (by decide);rw[show ptab 1=3 from rfl];have e1':rsP 3 n 1≤1:=by omega
   refine⟨?_,by omega,e1'⟩
   by_cases hl:n<8*10^(numD n-1)
   ·have e2:potD n 1=3:=by unfold potD ledB;simp[hl]
    have e3:numD (n*5^3)≤numD n+2:=by
     apply numD_le_of;have:=numD_pos1 h0
     have e4:10^(numD n+2)=1000*10^(numD n-1):=by
      rw[show numD n+2=(numD n-1)+3 by omega,Nat.pow_add];omega
     omega
    have e5:rsP 3 n 1≤0:=by unfold rsP;omega
    have e6:potD (rsN 3 n) (rsP 3 n 1)=0:=by unfold potD;rw[if_pos e5]
    omega
   ·have e2 : potD n 1 = 6 := by unfold potD ledB; simp[hl]
    have e3 : potD (rsN 3 n) (rsP 3 n 1) ≤ 3 := by
     by_cases e4:rsP 3 n 1=1
     ·rw[e4]
      have e5:numD (n*5^3)=numD n+3:=by unfold rsP at e4;omega
      have hne:n*5^3≠0:=by omega
      have e6:rsN 3 n<8*10^(numD (rsN 3 n)-1):=by
       unfold rsN;rw[←strip_lead hne,e5];have:=numD_lt n
       have e7:10^(numD n+3-1)=100*10^numD n:=by
        rw[show numD n+3-1=numD n+2 by omega,Nat.pow_add];omega
       omega
      unfold potD ledB;simp[e6]
     ·unfold potD;rw[if_pos (by omega)];omega
    omega
  ·subst e
   have e:=rsP_le (n:=n) (dp:=2) (k:=6) (c:=5) (by decide);have:=p6 (rsN 6 n) (rsP 6 n 2) (by omega);rw[show ptab 2=6 from rfl];have e2:potD n 2=32:=by unfold potD;simp
   exact⟨by omega,by omega,by omega⟩
  ·subst e
   have e:=rsP_le (n:=n) (dp:=3) (k:=9) (c:=7) (by decide);have:=p6 (rsN 9 n) (rsP 9 n 3) (by omega);rw[show ptab 3=9 from rfl];have e2:potD n 3=32:=by unfold potD;simp
   exact⟨by omega,by omega,by omega⟩
  ·subst e
   have e:=rsP_le (n:=n) (dp:=4) (k:=13) (c:=10) (by decide);have:=p6 (rsN 13 n) (rsP 13 n 4) (by omega);rw[show ptab 4=13 from rfl];have e2:potD n 4=32:=by unfold potD;simp
   exact⟨by omega,by omega,by omega⟩
  ·subst e
   have e:=rsP_le (n:=n) (dp:=5) (k:=16) (c:=12) (by decide);have:=p6 (rsN 16 n) (rsP 16 n 5) (by omega);rw[show ptab 5=16 from rfl];have e2:potD n 5=32:=by unfold potD;simp
   exact⟨by omega,by omega,by omega⟩
  ·subst e
   have e:=rsP_le (n:=n) (dp:=6) (k:=19) (c:=14) (by decide);have:=p6 (rsN 19 n) (rsP 19 n 6) (by omega);rw[show ptab 6=19 from rfl];have e2:potD n 6=32:=by unfold potD;simp
   exact⟨by omega,by omega,by omega⟩
  ·subst e
   have e:=rsP_le (n:=n) (dp:=7) (k:=23) (c:=17) (by decide);have:=p6 (rsN 23 n) (rsP 23 n 7) (by omega);rw[show ptab 7=23 from rfl];have e2:potD n 7=32:=by unfold potD;simp
   exact⟨by omega,by omega,by omega⟩
  ·subst e
   have e:=rsP_le (n:=n) (dp:=8) (k:=26) (c:=19) (by decide);have:=p6 (rsN 26 n) (rsP 26 n 8) (by omega);rw[show ptab 8=26 from rfl];have e2:potD n 8=32:=by unfold potD;simp
   exact⟨by omega,by omega,by omega⟩
def upC (n:Nat)(dp:Int):Bool:=decide (dp<0)||(decide (dp=0)&&ledB n 5)
def upL:Nat→Nat→Int→Int→Nat×Int×Int
 | 0,n,dp,ex=>(n,dp,ex)
 | m+1,n,dp,ex=>if upC n dp=true then upL m (lsN (ptab (-dp)) n) (lsP (ptab (-dp)) n dp) (ex-ptab (-dp)) else (n,dp,ex)
def potL (n:Nat):Nat:=if ledB n 5=false then 0 else if 5*10^(numD n-1)≤2*n then 1 else if 5*10^(numD n-1)≤4*n then 2 else 3
def potU (n:Nat)(dp:Int):Nat:=if 0<dp then 0 else if dp=0 then potL n else if dp=-1 then (if ledB n 2 then 9 else 6) else if -8≤dp then 35 else 27*((-dp-1)/8).toNat+35
theorem potL_le (n:Nat):potL n≤3:=by unfold potL;(repeat' split)<;>omega
theorem potU_9 (n:Nat){dp:Int}(h:-1≤dp):potU n dp≤9:=by
 have:=potL_le n;unfold potU
 repeat' split
 all_goals omega
theorem potU_35 (n:Nat){dp:Int}(h:-8≤dp):potU n dp≤35:=by
 have:=potL_le n;unfold potU
 repeat' split
 all_goals omega
theorem led_mul {n k:Nat}(h0:n≠0)(c:Nat):ledB (lsN k n) c=decide (n*2^k<c*10^(numD (n*2^k)-1)):=by
 unfold ledB lsN;rw[Bool.eq_iff_iff];simp only[decide_eq_true_eq];exact(strip_lead (Nat.mul_ne_zero h0 (pow2_ne k))).symm
theorem strip_half {n c m:Nat}(h:n≠0):c*10^(numD n-1)≤m*n↔c*10^(numD (strip n)-1)≤m*strip n:=by
 obtain⟨j,h1,h2,h3,_⟩:=strip_spec n h;have h4:=numD_pos1 h2
 have e:c*10^(numD n-1)=c*10^(numD (strip n)-1)*10^j:=by
  rw[h3,show numD (strip n)+j-1=(numD (strip n)-1)+j by omega,Nat.pow_add,Nat.mul_assoc]
 rw[e];generalize strip n=q at *;rw[show m*n=m*q*10^j by rw[show n=q*10^j from h1,Nat.mul_assoc]];exact Nat.mul_le_mul_right_iff (pow10_pos j)
theorem potU_step {n:Nat}{dp:Int}(h0:n≠0)(h:upC n dp=true):potU (lsN (ptab (-dp)) n) (lsP (ptab (-dp)) n dp)+ptab (-dp)≤potU n dp∧1≤ptab (-dp)∧dp≤lsP (ptab (-dp)) n dp∧lsP (ptab (-dp)) n dp≤0:=by
 have hd1:=numD_pos1 h0;have hlt:=numD_lt n;have hle:=numD_le n h0
 have h10:10^numD n=10*10^(numD n-1):=by
  conv=>lhs;rw[show numD n=(numD n-1)+1 by omega,Nat.pow_succ]
  omega
 by_cases h9:dp≤-9
 ·rw[ptab_big (by omega:9≤-dp)]
  have e1:=lsP_ge (dp:=dp) (k:=27) (c:=8) h0 (by decide);have e2:=lsP_le (n:=n) (dp:=dp) (k:=27) (c:=9) (by decide);have e3:potU n dp=27*((-dp-1)/8).toNat+35:=by unfold potU;rw[if_neg (by omega),if_neg (by omega),if_neg (by omega),if_neg (by omega)]
  refine⟨?_,by omega,by omega,by omega⟩
  by_cases h8:-8≤lsP 27 n dp
  ·have:=potU_35 (lsN 27 n) h8
   omega
  ·have e4:potU (lsN 27 n) (lsP 27 n dp)=27*((-lsP 27 n dp-1)/8).toNat+35:=by unfold potU;rw[if_neg (by omega),if_neg (by omega),if_neg (by omega),if_neg (by omega)]
   omega
 ·have hdp:dp≤0:=by
   unfold upC at h
   by_cases hh:dp<0
   ·omega
   ·simp[hh]at h;omega
  have hc:dp=0∨dp=-1∨dp=-2∨dp=-3∨dp=-4∨dp=-5∨dp=-6∨dp=-7∨dp=-8:=by omega
  rcases hc with e|e|e|e|e|e|e|e|e
  ·subst e
   have hl:ledB n 5=true:=by simpa[upC] using h
   rw[show ptab (-0)=1 from rfl];have hl2:n<5*10^(numD n-1):=by simpa[ledB] using hl
   have hd:numD (n*2^1)=numD n:=by
    have:=numD_le_of (n:=n*2^1) (m:=numD n) (by omega);have:=numD_mono (a:=n) (b:=n*2^1) (by omega);omega
   have e1:lsP 1 n 0=0:=by unfold lsP;omega
   rw[e1];refine⟨?_,by omega,by omega,by omega⟩;have e2:∀m,potU m 0=potL m:=by intro m;unfold potU;simp
   rw[e2,e2];have hne:n*2^1≠0:=by omega
   have e3:ledB (lsN 1 n) 5=decide (n*2^1<5*10^(numD n-1)):=by rw[led_mul h0,hd]
   have e4:=strip_half (c:=5) (m:=2) hne;have e5:=strip_half (c:=5) (m:=4) hne;rw[hd]at e4 e5;unfold potL;rw[hl,e3];unfold lsN
   by_cases a1:5*10^(numD n-1)≤2*n
   ·have:¬(n*2^1<5*10^(numD n-1)):=by omega
    simp[this,a1]
   ·have b1:n*2^1<5*10^(numD n-1):=by omega
    by_cases a2:5*10^(numD n-1)≤4*n
    ·have b2:=e4.1 (by omega)
     simp[b1,a1,a2,b2]
    ·have b2:=e5.1 (by omega)
     have b3:¬5*10^(numD (strip (n*2^1))-1)≤2*strip (n*2^1):=fun x=>by have:=e4.2 x;omega
     simp[b1,a1,a2,b2]
     split<;>omega
  ·subst e
   rw[show ptab (- -1)=3 from rfl];have e2:=lsP_le (n:=n) (dp:=-1) (k:=3) (c:=1) (by decide);have e1:=lsP_ge (dp:=-1) (k:=3) (c:=0) h0 (by decide);refine⟨?_,by omega,by omega,by omega⟩
   by_cases e3:lsP 3 n (-1)=0
   ·rw[e3]
    have e4:potU (lsN 3 n) 0≤3:=by have:=potL_le (lsN 3 n);unfold potU;simpa using this
    have e5:6≤potU n (-1):=by unfold potU;simp;split<;>omega
    omega
   ·have e4:lsP 3 n (-1)=-1:=by omega
    have e5:numD (n*2^3)=numD n:=by unfold lsP at e4;omega
    have e6:=numD_lt (n*2^3);rw[e5]at e6;have e7:ledB n 2=true:=by unfold ledB;simp;omega
    have e8:ledB (lsN 3 n) 2=false:=by rw[led_mul h0,e5];simp;omega
    rw[e4];unfold potU;simp[e7,e8]
  ·subst e
   rw[show ptab (- -2)=6 from rfl];have e2:=lsP_le (n:=n) (dp:=-2) (k:=6) (c:=2) (by decide);have e1:=lsP_ge (dp:=-2) (k:=6) (c:=1) h0 (by decide);have:=potU_9 (lsN 6 n) (dp:=lsP 6 n (-2)) (by omega);have e3:potU n (-2)=35:=by unfold potU;simp
   exact⟨by omega,by omega,by omega,by omega⟩
  ·subst e
   rw[show ptab (- -3)=9 from rfl];have e2:=lsP_le (n:=n) (dp:=-3) (k:=9) (c:=3) (by decide);have e1:=lsP_ge (dp:=-3) (k:=9) (c:=2) h0 (by decide);have:=potU_9 (lsN 9 n) (dp:=lsP 9 n (-3)) (by omega);have e3:potU n (-3)=35:=by unfold potU;simp
   exact⟨by omega,by omega,by omega,by omega⟩
  ·subst e
   rw[show ptab (- -4)=13 from rfl];have e2:=lsP_le (n:=n) (dp:=-4) (k:=13) (c:=4) (by decide);have e1:=lsP_ge (dp:=-4) (k:=13) (c:=3) h0 (by decide);have:=potU_9 (lsN 13 n) (dp:=lsP 13 n (-4)) (by omega);have e3:potU n (-4)=35:=by unfold potU;simp
   exact⟨by omega,by omega,by omega,by omega⟩
  ·subst e
   rw[show ptab (- -5)=16 from rfl];have e2:=lsP_le (n:=n) (dp:=-5) (k:=16) (c:=5) (by decide);have e1:=lsP_ge (dp:=-5) (k:=16) (c:=4) h0 (by decide);have:=potU_9 (lsN 16 n) (dp:=lsP 16 n (-5)) (by omega);have e3:potU n (-5)=35:=by unfold potU;simp
   exact⟨by omega,by omega,by omega,by omega⟩
  ·subst e
   rw[show ptab (- -6)=19 from rfl];have e2:=lsP_le (n:=n) (dp:=-6) (k:=19) (c:=6) (by decide);have e1:=lsP_ge (dp:=-6) (k:=19) (c:=5) h0 (by decide);have:=potU_9 (lsN 19 n) (dp:=lsP 19 n (-6)) (by omega);have e3:potU n (-6)=35:=by unfold potU;simp
   exact⟨by omega,by omega,by omega,by omega⟩
  ·subst e
   rw[show ptab (- -7)=23 from rfl];have e2:=lsP_le (n:=n) (dp:=-7) (k:=23) (c:=7) (by decide);have e1:=lsP_ge (dp:=-7) (k:=23) (c:=6) h0 (by decide);have:=potU_9 (lsN 23 n) (dp:=lsP 23 n (-7)) (by omega);have e3:potU n (-7)=35:=by unfold potU;simp
   exact⟨by omega,by omega,by omega,by omega⟩
  ·subst e
   rw[show ptab (- -8)=26 from rfl];have e2:=lsP_le (n:=n) (dp:=-8) (k:=26) (c:=8) (by decide);have e1:=lsP_ge (dp:=-8) (k:=26) (c:=7) h0 (by decide);have:=potU_9 (lsN 26 n) (dp:=lsP 26 n (-8)) (by omega);have e3:potU n (-8)=35:=by unfold potU;simp
   exact⟨by omega,by omega,by omega,by omega⟩
open Go Go.RowKit
def bi (c:UInt8):Value:=.int .u8 (c.toNat:Int)
def decCells (A:By)(nd:Nat)(dp:Int)(neg tr:Bool):List Value:=A.map bi++[.int .i64 nd,.int .i64 dp,.bool neg,.bool tr]
def DecAt (w:World)(b:Nat)(A:By)(nd:Nat)(dp:Int)(neg tr:Bool):Prop :=
 A.length=800∧w.heap[b]?=some (.cells (decCells A nd dp neg tr).toArray 190 (0,0))
section
variable {w:World} {b:Nat} {A:By} {nd:Nat} {dp:Int} {neg tr:Bool}
theorem DecAt.cells (h:DecAt w b A nd dp neg tr):w.cell? ⟨b,800,none⟩=some (.int .i64 nd)∧w.cell? ⟨b,801,none⟩=some (.int .i64 dp)∧w.cell? ⟨b,802,none⟩=some (.bool neg)∧w.cell? ⟨b,803,none⟩=some (.bool tr)∧(∀i,w.frozen? ⟨b,i,none⟩=false):=by
 obtain⟨h0,h⟩:=h
 have e:∀j,(decCells A nd dp neg tr)[800+j]?=[Value.int .i64 nd,.int .i64 dp,.bool neg,.bool tr][j]?:=by
  intro j;unfold decCells;rw[List.getElem?_append_right (by simp;omega)];simp[h0]
 have e0:=e 0;have e1:=e 1;have e2:=e 2;have e3:=e 3
 simp at e0 e1 e2 e3;simp[World.cell?,World.frozen?,h,e0,e1,e2,e3]
theorem DecAt.dig (h:DecAt w b A nd dp neg tr){i:Nat}(hi:i<800):w.cell? ⟨b,i,none⟩=some (.int .u8 ((A.getD i 0).toNat:Int)):=by
 obtain⟨h0,h⟩:=h;have hi2:i<A.length:=by omega
 have e:(decCells A nd dp neg tr)[i]?=some (bi (A.getD i 0)):=by
  unfold decCells;rw[List.getElem?_append_left (by simp;omega)];simp[hi2]
 simp[World.cell?,h,e,bi]
theorem DecAt.digE (h:DecAt w b A nd dp neg tr){i:Nat}(hi:i<800):∃c:UInt8,A.getD i 0=c∧w.cell? ⟨b,i,none⟩=some (.int .u8 (c.toNat:Int)):=⟨_,rfl,h.dig hi⟩
theorem DecAt.lt (h:DecAt w b A nd dp neg tr):b<w.heap.size:=(Array.getElem?_eq_some_iff.1 h.2).1
theorem DecAt.of_heap {w':World}(h:DecAt w b A nd dp neg tr)(e:w'.heap[b]?=w.heap[b]?):DecAt w' b A nd dp neg tr:=⟨h.1,e.trans h.2⟩
theorem DecAt.drewN (h:DecAt w b A nd dp neg tr)(n:Nat):DecAt (w.drewN n) b A nd dp neg tr:=h
theorem decSet (w:World)(b i:Nat)(v:Value)(cs:Array Value)(T:TypeId)(f:Nat×Nat)(h:w.heap[b]?=some (.cells cs T f)):(w.setCell ⟨b,i,none⟩ v).heap[b]?=some (.cells (cs.setIfInBounds i v) T f):=by
 simp[World.setCell,Array.getElem?_modify,h]
theorem DecAt.setNd (h:DecAt w b A nd dp neg tr)(n:Nat):DecAt (w.setCell ⟨b,800,none⟩ (.int .i64 n)) b A n dp neg tr:=by
 refine⟨h.1,?_⟩;rw[decSet _ _ _ _ _ _ _ h.2];simp only[decCells,List.setIfInBounds_toArray];rw[List.set_append_right _ _ (by simp[h.1])];simp[h.1]
theorem DecAt.setDp (h:DecAt w b A nd dp neg tr)(n:Int):DecAt (w.setCell ⟨b,801,none⟩ (.int .i64 n)) b A nd n neg tr:=by
 refine⟨h.1,?_⟩;rw[decSet _ _ _ _ _ _ _ h.2];simp only[decCells,List.setIfInBounds_toArray];rw[List.set_append_right _ _ (by simp[h.1])];simp[h.1]
theorem DecAt.setNeg (h:DecAt w b A nd dp neg tr)(n:Bool):DecAt (w.setCell ⟨b,802,none⟩ (.bool n)) b A nd dp n tr:=by
 refine⟨h.1,?_⟩;rw[decSet _ _ _ _ _ _ _ h.2];simp only[decCells,List.setIfInBounds_toArray];rw[List.set_append_right _ _ (by simp[h.1])];simp[h.1]
theorem DecAt.setTr (h:DecAt w b A nd dp neg tr)(n:Bool):DecAt (w.setCell ⟨b,803,none⟩ (.bool n)) b A nd dp neg n:=by
 refine⟨h.1,?_⟩;rw[decSet _ _ _ _ _ _ _ h.2];simp only[decCells,List.setIfInBounds_toArray];rw[List.set_append_right _ _ (by simp[h.1])];simp[h.1]
theorem DecAt.setDig (h:DecAt w b A nd dp neg tr){i:Nat}(hi:i<800)(c:UInt8):DecAt (w.setCell ⟨b,i,none⟩ (.int .u8 (c.toNat:Int))) b (A.set i c) nd dp neg tr:=by
 refine⟨by simp[h.1],?_⟩;rw[decSet _ _ _ _ _ _ _ h.2];simp only[decCells,List.setIfInBounds_toArray];rw[List.set_append_left _ _ (by simp[h.1];omega)];simp[List.map_set,bi]
theorem DecAt.grown {w':World}{r:Option Nat}(h:DecAt w b A nd dp neg tr)(hg:w.grownBy w' r)(hr:r≠some b):DecAt w' b A nd dp neg tr :=
 h.of_heap (hg.block b h.lt (fun e=>hr e.symm))
end
def trimN (A:By):Nat→Nat
 | 0=>0
 | n+1=>if (A.getD n 0).toNat=48 then trimN A n else n+1
theorem trimN_le (A:By):∀n,trimN A n≤n:=by
 intro n
 induction n with
 | zero=>exact Nat.le_refl _
 | succ n ih=>simp only[trimN];split<;>omega
def dpN (n:Nat)(dp:Int):Int:=if n=0 then 0 else dp
theorem trim_any (w:World)(b:Nat)(A:By)(nd:Nat)(dp:Int)(neg tr:Bool)(hD:DecAt w b A nd dp neg tr)(hnd:nd≤800) :
  Calls Tryz.prog 171 #[.pointer (some ⟨b,0,none⟩)] w fun e w'=>e=.returned (.tuple #[])∧DecAt w' b A (trimN A nd) (dpN (trimN A nd) dp) neg tr∧w.grownBy w' (some b):=by
 have HD:=xhd hD;clear hD;generalize hT0:trimN A nd=T;have HT0:=xhd hT0;clear hT0
 go_enter Tryz.func171,Tryz.ntmps171;go_wp2_with fail
 go_loopg [] nd (fun g wr=>∃n,g=n∧n≤nd∧trimN A n=T∧DecAt wr b A n dp neg tr∧w.grownBy wr (some b))
 case atStart=>exact⟨nd,rfl,Nat.le_refl _,HT0.out,HD.out,xgr _ _⟩
 case round =>
  obtain⟨n,hg,hn,hT,hD,hG⟩:=hrel;obtain⟨c0,c1,c2,c3,cf⟩:=hD.cells;obtain⟨HT,HG,Hg⟩:=xh3 hT hG hg;clear hT hG hg
  clear HD
  cases n with
  | zero =>
   have HD:=xhd hD;clear hD
   go_wp2_with fail
   go_quiet (fail);go_wp2_with fail
   go_end0;have e:T=0:=by rw[←HT.out];rfl
   rw[e];exact⟨rfl,HD.out.setDp _,(by repeat (first|exact HG.out|apply gr_set|apply gr_drewN|apply gr_drew|apply gr_alloc))⟩
  | succ n =>
   obtain⟨c,hc,cd⟩:=hD.digE (i:=n) (by omega);have HD:=xhd hD;clear hD
   by_cases h48:c.toNat=48
   ·rw[h48]at cd
    have H48:=xhd (show (A.getD n 0).toNat=48 by rw[hc];exact h48);clear h48 hc;go_wp2_with fail
    go_quiet (fail);go_wp2_with fail
    go_roundg n
    case measure=>rw[Hg.out];omega
    case rel=>exact⟨n,rfl,by omega,by rw[←HT.out];simp only[trimN];rw[if_pos H48.out],HD.out.setNd n,(by repeat (first|exact HG.out|apply gr_set|apply gr_drewN|apply gr_drew|apply gr_alloc))⟩
   ·have hb:((c.toNat:Int)==48)=false:=by simpa using fun e:(c.toNat:Int)=48=>h48 (by omega)
    have H48:=xhd (show ¬(A.getD n 0).toNat=48 by rw[hc];exact h48);clear h48 hc;go_wp2_with fail
    go_quiet (fail);go_wp2_with fail
    go_end0;have e:T=n+1:=by rw[←HT.out];simp only[trimN];rw[if_neg H48.out]
    rw[e];exact⟨rfl,HD.out.drewN _,(by repeat (first|exact HG.out|apply gr_set|apply gr_drewN|apply gr_drew|apply gr_alloc))⟩
end Go.Proofs.YtfkecmlmnhbmoaaGreatDoor
namespace Go.Proofs.YtfkecmlmnhbmoaaGreatDoor
theorem octM_len:∀(n:Nat) (l:By) (out:Int),(octM n l out).2.length≤l.length:=by
 intro n
 induction n with
 | zero=>intro l out;exact Nat.le_refl _
 | succ n ih =>
  intro l out
  cases l with
  | nil=>exact Nat.le_refl _
  | cons c l =>
   simp only[octM]
   split
   ·exact Nat.le_trans (ih l _) (by simp)
   ·exact Nat.le_refl _
theorem esc13_len (l:By):(esc13 l).2.2.length≤l.length:=by
 cases l with
 | nil=>exact Nat.le_refl _
 | cons c l =>
  simp only[esc13]
  split<;>simp
theorem escF_len (l:By):(escF l).2.2.length≤l.length:=by
 cases l with
 | nil=>exact Nat.le_refl _
 | cons c l =>
  have h1:=octM_len 2 l ((c.toNat:Int)-48);have h2:=esc13_len l;simp only[escF]
  repeat' split
  all_goals simp
  all_goals omega
def skip10:By→By
 | []=>[]
 | d::l=>if (d.toNat:Int)==10 then l else d::l
theorem skip10_len (l:By):(skip10 l).length≤l.length:=by
 cases l with
 | nil=>exact Nat.le_refl _
 | cons c l =>
  simp only[skip10]
  split<;>simp
def litF (l:By)(op:Int)(out:By):Option (By×By) :=
 match l with
 | []=>none
 | c::l =>
  if (c.toNat:Int)==40 then (if op+1==1 then litF l (op+1) out else litF l (op+1) (out++[c]))
  else if (c.toNat:Int)==41 then (if op-1==0 then some (out,l) else litF l (op-1) (out++[c]))
  else if (c.toNat:Int)==13 then litF (skip10 l) op (out++[10])
  else if (c.toNat:Int)==92 then (if (escF l).2.1 then litF (escF l).2.2 op (out++[UInt8.ofNat (escF l).1.toNat]) else litF (escF l).2.2 op out)
  else litF l op (out++[c])
termination_by l.length
decreasing_by
 all_goals first
  | (have:=skip10_len l;simp;omega)
  | (have:=escF_len l;simp;omega)
  | simp
theorem litF_nil (op:Int)(out:By):litF [] op out=none:=by rw[litF]
theorem litF_cons (c:UInt8)(l:By)(op:Int)(out:By):litF (c::l) op out =
  if (c.toNat:Int)==40 then (if op+1==1 then litF l (op+1) out else litF l (op+1) (out++[c]))
  else if (c.toNat:Int)==41 then (if op-1==0 then some (out,l) else litF l (op-1) (out++[c]))
  else if (c.toNat:Int)==13 then litF (skip10 l) op (out++[10])
  else if (c.toNat:Int)==92 then (if (escF l).2.1 then litF (escF l).2.2 op (out++[UInt8.ofNat (escF l).1.toNat]) else litF (escF l).2.2 op out)
  else litF l op (out++[c]):=by rw[litF]
theorem escF_range (l:By):0≤(escF l).1∧(escF l).1≤255:=by
 cases l with
 | nil=>simp[escF]
 | cons c l =>
  have hc:=bi_range c
  have h2:0≤(esc13 l).1∧(esc13 l).1≤255:=by
   cases l with
   | nil=>simp[esc13]
   | cons d l=>simp only[esc13];split<;>simp
  simp only[escF]
  repeat' split
  all_goals first
   | exact h2
   | (simp;omega)
   | (simp;done)
theorem byte_of (n:Int)(h0:0≤n)(h1:n≤255):n=((UInt8.ofNat n.toNat).toNat:Int):=by
 rw[UInt8.toNat_ofNat'];omega
open Go Go.RowKit
theorem Tryz.info5:(Tryz.prog.info? 5).map (fun i=>(i.zero,i.size,i.bytes))=some (some (.int .u8 0),1,1):=by kernel_rfl
def OwnB (B:Nat)(w:World)(v:Value)(l:By):Prop:=w.ownsRow B 5 1 v l.length (l.map fun c=>Value.int .u8 (c.toNat:Int))
theorem OwnB.nil (B:Nat)(w:World):OwnB B w (.slice none 0 0) []:=World.ownsRow_nil _ _ _ _
theorem OwnB.lt {B:Nat}{w:World}{v:Value}{l:By}(h:OwnB B w v l):∀k,v.ownBlock=some k→B≤k∧k<w.heap.size:=World.ownsRow.lt h
theorem OwnB.kept {B:Nat}{w w':World}{v:Value}{l:By}(h:OwnB B w v l){r:Option Nat}(hg:w.grownBy w' r)(hr:∀k,r=some k→k<B):OwnB B w' v l:=by
 refine World.ownsRow.kept h hg ?_
 cases hv:v.ownBlock with
 | none=>exact .inl rfl
 | some k =>
  right;intro e;have:=(h.lt k hv).1;have:=hr k e.symm;omega
theorem OwnB.set {B:Nat}{w:World}{v:Value}{l:By}(h:OwnB B w v l){b i:Nat}(hb:b<B)(u:Value):OwnB B (w.setCell ⟨b,i,none⟩ u) v l :=
 h.kept (gr_set (xgr w (some b)) i u) (fun k hk=>by injection hk with hk;omega)
theorem OwnB.drewN {B:Nat}{w:World}{v:Value}{l:By}(h:OwnB B w v l)(n:Nat):OwnB B (w.drewN n) v l:=h
theorem OwnB.drew {B:Nat}{w:World}{v:Value}{l:By}(h:OwnB B w v l):OwnB B w.drew v l:=h
theorem OwnB.alloc {B:Nat}{w:World}{v:Value}{l:By}(h:OwnB B w v l)(o:Obj):OwnB B (w.alloc o) v l:=World.ownsRow.alloc h o
theorem gr_then {w wr w1:World}{b:Nat}{r:Option Nat}(h:w.grownBy wr (some b))(k:wr.grownBy w1 r)(hr:∀j,r=some j→w.heap.size≤j):w.grownBy w1 (some b) :=
 h.andThen k (fun j hj=>.inl (hr j hj))
theorem gr_noneThen {w wr w1:World}{r:Option Nat}(h:w.grownBy wr none)(k:wr.grownBy w1 r)(hr:∀j,r=some j→w.heap.size≤j):w.grownBy w1 none :=
 h.andThen k (fun j hj=>.inl (hr j hj))
theorem wpList_push {w:World}{ops:Array Oper}{rest:List Oper}{o:Oper}{a:Act}{Q:Exit→Act→World→Prop}(hgd:o.guard=Option.none)(s x:Operand)
  (ho:o.op=.call { callee:=.builtin .append,args:=#[s,x],argTypes:=#[84,84] })(B:Nat)(v:Value)(l:By)(c:UInt8)(n:Int)(hs:a.eval s=v)(hown:OwnB B w v l)
  (ad:Addr)(hx:a.eval x=.slice (some ad) 1 1)(hcell:w.cell? ad=some (.int .u8 n))(hn:n=(c.toNat:Int))(hl:l.length+1≤140737488355328)(hB:B≤w.heap.size)
  (h:∀v' w',OwnB B w' v' (l++[c])→w.grownBy w' v.ownBlock→wpList Tryz.prog ops Q rest (a.put o.dst v') w'):wpList Tryz.prog ops Q (o::rest) a w:=by
 obtain⟨i,hi,hz0,hz1,hz2⟩:=info_parts Tryz.info5;subst hn;refine wpList_append_own w hgd s x 84 ho B 5 i (.int .u8 0) 1 1 Tryz.underlying84 hi hz0 hz1 hz2 rfl (by decide) v l.length _ hs hown ad 1 1 [.int .u8 (c.toNat:Int)] hx rfl ?_ ?_ (by unfold maxLen;omega) (by omega) hB ?_
 ·intro j u hj
  match j,hj with
  | 0,hj=>simp at hj;subst hj;rw[show ad.add 0=ad from by simp[Addr.add]];exact hcell
  | j+1,hj=>simp at hj
 ·intro u hu;simp at hu;subst hu;rfl
 ·intro v' w' h1 h2 _
  exact h v' w' (by unfold OwnB;simpa using h1) h2
theorem bytes_fold:∀(l:By) (r:ByteArray),(l.map fun c=>(c.toNat:Int)).foldl (fun r n=>r.push (UInt8.ofNat n.toNat)) r=⟨(r.data.toList++l).toArray⟩:=by
 intro l
 induction l with
 | nil=>intro r;cases r;simp
 | cons c l ih =>
  intro r;simp only[List.map_cons,List.foldl_cons,ih]
  cases r
  simp[ByteArray.push]
theorem run_ownString {w:World}{B:Nat}{v:Value}{l:By}(hown:OwnB B w v l):(convert 84 9 v).run Tryz.prog w=.ok (.string ⟨l.toArray⟩) w:=by
 obtain⟨h1,h2⟩:=hown;rcases h2 with⟨rfl,h0⟩|⟨g,cap,cur,rfl,hb,hg,hc,hm,hs,ht⟩
 ·have:l=[]:=List.eq_nil_of_length_eq_zero h0
  subst this;rw[run_convert_bytes_string w 84 9 5 Option.none 0 0 Tryz.underlying84 Tryz.underlying5 Tryz.underlying9];rfl
 ·rw[run_convert_bytes_string w 84 9 5 (some ⟨g,0,Option.none⟩) l.length cap Tryz.underlying84 Tryz.underlying5 Tryz.underlying9]
  rw[run_bytesToString w ⟨g,0,Option.none⟩ l.length cap (l.map fun c=>(c.toNat:Int))]
  ·rw[bytes_fold];rfl
  ·have:=run_loadCells_list (P:=Tryz.prog) w ⟨g,0,Option.none⟩ (l.map fun c=>Value.int .u8 (c.toNat:Int)) (World.ownsRow.cells ⟨h1,.inr ⟨g,cap,cur,rfl,hb,hg,hc,hm,hs,ht⟩⟩ rfl)
   simpa[Function.comp_def] using this
theorem wpList_ownstr {w:World}{ops:Array Oper}{rest:List Oper}{o:Oper}{a:Act}{Q:Exit→Act→World→Prop}(hgd:o.guard=Option.none)(x:Operand)
  (ho:o.op=.convert 84 9 x)(B:Nat)(l:By)(hown:OwnB B w (a.eval x) l)(h:wpList Tryz.prog ops Q rest (a.put o.dst (.string ⟨l.toArray⟩)) w):wpList Tryz.prog ops Q (o::rest) a w:=by
 refine wpList_plain hgd fun K hK=>?_;unfold Oper.wp;simp only[execOp,ho];have:=run_ownString hown;simp[Sem.run_map,Sem.run_bind,this,Result.andThen,Oper.upon];exact hK _ _ h
def zeroV:Value:=.agg #[.int .i64 0,.int .i64 0,.int .i64 0,.float .f64 0,.string ⟨#[]⟩,.slice none 0 0,.slice none 0 0]
def failB (bad what:Int):Int:=if bad=0 then what else bad
theorem RdAt.set2 {w:World}{b:Nat}{s:ByteArray}{p l:By}{bad deep:Int}{odd ends:Bool}(h:RdAt w b s p l bad deep odd ends)(x:Int):RdAt (w.setCell ⟨b,2,Option.none⟩ (.int .i64 x)) b s p l x deep odd ends:=by
 refine⟨h.1,?_⟩;simp[World.setCell,Array.getElem?_modify,h.2]
theorem RdAt.set3 {w:World}{b:Nat}{s:ByteArray}{p l:By}{bad deep:Int}{odd ends:Bool}(h:RdAt w b s p l bad deep odd ends)(x:Int):RdAt (w.setCell ⟨b,3,Option.none⟩ (.int .i64 x)) b s p l bad x odd ends:=by
 refine⟨h.1,?_⟩;simp[World.setCell,Array.getElem?_modify,h.2]
theorem RdAt.set5 {w:World}{b:Nat}{s:ByteArray}{p l:By}{bad deep:Int}{odd ends:Bool}(h:RdAt w b s p l bad deep odd ends)(x:Bool):RdAt (w.setCell ⟨b,5,Option.none⟩ (.bool x)) b s p l bad deep odd x:=by
 refine⟨h.1,?_⟩;simp[World.setCell,Array.getElem?_modify,h.2]
theorem RdAt.alloc {w:World}{b:Nat}{s:ByteArray}{p l:By}{bad deep:Int}{odd ends:Bool}(h:RdAt w b s p l bad deep odd ends)(o:Obj):RdAt (w.alloc o) b s p l bad deep odd ends :=
 h.of_heap (Below.heap_alloc _ _ _ h.lt)
theorem RdAt.grown {w w':World}{b:Nat}{s:ByteArray}{p l:By}{bad deep:Int}{odd ends:Bool}(h:RdAt w b s p l bad deep odd ends){r:Option Nat}(hg:w.grownBy w' r)(hr:some b≠r):RdAt w' b s p l bad deep odd ends :=
 h.of_heap (hg.block b h.lt hr)
theorem fail_any (w:World)(b:Nat)(s:ByteArray)(p l:By)(bad deep:Int)(odd ends:Bool)(hR:RdAt w b s p l bad deep odd ends)(what:Int) :
  Calls Tryz.prog 45 #[.pointer (some ⟨b,0,none⟩),.int .i64 what] w fun e w'=>e=.returned zeroV∧RdAt w' b s p l (failB bad what) deep odd ends∧w.grownBy w' (some b):=by
 have HR:=xhd hR;have HG:=xhd (xgr w (some b));obtain⟨c0,c1,c2,c3,c4,c5,cf⟩:=HR.out.cells;have hsz:=HR.out.size;have hb:=hR.lt;clear hR hsz;rcases xbt (bad==0) with h0|h0
 all_goals
  go_enter Tryz.func45,Tryz.ntmps45
  go_wp2
  refine bodyPost_ret (v:=zeroV) (by simp[results,Tryz.results45,go_sem,zeroV]) rfl ⟨rfl,?_,(by repeat (first|exact HG.out|apply gr_set|apply gr_drewN|apply gr_drew|apply gr_alloc))⟩
  first
   | (have e:failB bad what=what:=(by simp at h0;simp[failB,h0]);rw[e];exact(HR.out.set2 _).alloc _)
   | (have e:failB bad what=bad:=(by simp at h0;simp[failB,h0]);rw[e];exact HR.out.alloc _)
theorem is_take {s t:ByteArray}{p l:By}(h:s.data.toList=p++l)(ht:t.size≤l.length):((s.extract p.length (p.length+t.size)).toList==t.toList)=t.data.toList.isPrefixOf l:=by
 have e:(s.extract p.length (p.length+t.size)).toList=l.take t.size:=by
  rw[ByteArray.toList_eq];simp[h]
 rw[e,ByteArray.toList_eq];have h1:t.size=t.data.toList.length:=by simp
 rw[h1,Bool.eq_iff_iff];simp only[beq_iff_eq,List.isPrefixOf_iff_prefix];rw[List.prefix_iff_eq_take];exact eq_comm
theorem is_any (w:World)(b:Nat)(s:ByteArray)(p l:By)(bad deep:Int)(odd ends:Bool)(hR:RdAt w b s p l bad deep odd ends)(hs:s.size≤140737488351240)(t:ByteArray)(ht:t.size≤3) :
  Calls Tryz.prog 47 #[.pointer (some ⟨b,0,none⟩),.string t] w fun e w'=>e=.returned (.bool (t.data.toList.isPrefixOf l))∧∃n,w'=w.drewN n:=by
 have HR:=xhd hR;have hsz:=hR.size;obtain⟨c0,c1,c2,c3,c4,c5,cf⟩:=hR.cells;clear hR
 by_cases h4:(t.size:Int)≤(s.size:Int)-(p.length:Int)
 ·have hd:decide ((t.size:Int)≤(s.size:Int)-(p.length:Int))=true:=by simpa using h4
  have h5:p.length≤p.length+t.size:=by omega
  have h6:p.length+t.size≤s.size:=by omega
  clear hsz;go_enter Tryz.func47,Tryz.ntmps47;go_wp2_with fail
  go_quiet (fail)
  go_wp2_with fail
  go_ret;have hl:t.size≤l.length:=by have:=HR.out.size;omega
  exact⟨ret_bool (is_take HR.out.1 hl),⟨_,rfl⟩⟩
 ·have hd:decide ((t.size:Int)≤(s.size:Int)-(p.length:Int))=false:=by simpa using h4
  have h7:p.length≤s.size:=by omega
  clear hsz;go_enter Tryz.func47,Tryz.ntmps47;go_wp2_with fail
  go_quiet (fail)
  go_wp2_with fail
  go_ret;have hl:¬t.size≤l.length:=by have:=HR.out.size;omega
  refine⟨ret_bool ?_,⟨_,rfl⟩⟩;symm;rw[Bool.eq_false_iff];intro hp;have:=(List.isPrefixOf_iff_prefix.1 hp).length_le;simp at this;omega
end Go.Proofs.YtfkecmlmnhbmoaaGreatDoor
