/- The texts F1 F2 F3 P3 P4 Shelf F11 of the workbench, laid together. -/
import Derived.Test.YtfkecmlmnhbmoaaGreatDoorProg
import Derived.WalkKit
import Derived.WalkLawsBesides
import Derived.WalkSpells
import Derived.BigQuiet
import Derived.BigRegion
import Derived.Deep.QuietTactic
import Derived.Deep.RegionHeld3
import Derived.Deep.LoopGhost
import Derived.StillTailTactics
import Derived.Lib.Hide
import Derived.Laws.EntriesVeiled
import Derived.Lib.AtoiAll
import Derived.Shelf.Strings.Builder1
import Derived.Shelf.Strings.Builder2
import Derived.Shelf.Strings.OnBuilder
import Derived.Shelf.Small.Utf8
import Derived.Shelf.Small.Bits
import Derived.Shelf.Small.Wraps
import Derived.Shelf.Strings.BuilderF
import Derived.Shelf.Strings.BuilderK
import Derived.Shelf.Strings.BuilderRune
import Derived.Shelf.Utf8.AppendRune
import Derived.Shelf.Strconv.Atoi
import Derived.Shelf.Strconv.Itoa0
import Derived.Shelf.Strconv.Itoa1
import Derived.Shelf.LaysM
import Derived.Shelf.Strconv.Itoa2
import Derived.Shelf.Strconv.Itoa3
import Derived.Shelf.Strconv.AtoiErrFast
import Derived.Shelf.Strconv.ParseIntEmpty
import Derived.Shelf.Strconv.AtoiFail
import Derived.Shelf.Strconv.Clone
import Derived.Shelf.Strconv.SyntaxError
import Derived.Shelf.LaysC
import Derived.Shelf.Strconv.ToError
import Derived.Shelf.Strconv.AtoiErr
import Derived.Shelf.Strconv.Lower
import Derived.Shelf.Strconv.ParseUint10
import Derived.Shelf.Strconv.ParseUint10Empty
import Derived.Shelf.Strconv.ParseUint10Any
import Derived.Shelf.Strconv.ParseInt10
import Derived.Shelf.Strconv.AtoiLong
import Derived.Shelf.Strconv.AtoiInnerAll
import Derived.Shelf.Strconv.RangeError
import Derived.Shelf.Strconv.ToErrorRange
import Derived.Shelf.Strconv.AtoiAll
import Derived.Shelf.Strconv.ErrVarAll
import Derived.Shelf.Strconv.ParseUintEmpty
import Derived.Shelf.Strconv.ParseUint10b64
import Derived.Shelf.Strconv.ParseUint10b32
import Derived.Shelf.Strconv.ParseUint10b16
import Derived.Shelf.Strconv.ParseUint10b8
import Derived.Shelf.Strconv.ParseUint10At
import Derived.Shelf.Strconv.ParseInt10At64
import Derived.Shelf.Strconv.ParseInt10At32
import Derived.Shelf.Strconv.ParseInt10At16
import Derived.Shelf.Strconv.ParseInt10At8
import Derived.Shelf.Strconv.ParseInt10All
import Derived.Shelf.Sort.Plain
import Derived.Shelf.GgClosure.StringsIndexFunc
import Derived.Shelf.GgClosure.StringsTrimFunc
import Derived.Shelf.GgClosure.StringsRunes
import Derived.Shelf.Strings.Prefix
import Derived.Shelf.Unicode.Decode
import Derived.Shelf.Bits.Mul64
import Derived.Shelf.Unicode.DecodeSlow
import Derived.Shelf.Unicode.DecodeAny
import Derived.Shelf.Unicode.DecodeLast
import Derived.Shelf.Strings.FuncGrows
import Derived.Shelf.Slices.In.SortNone
import Derived.Shelf.Slices.In.SortNone2
import Derived.Ground.PaProg
import Derived.Shelf.Hex.Lens
import Derived.Shelf.Hex.Encode
import Derived.Shelf.Hex.Decode
import Derived.Shelf.Hex.DecodeOwns
import Derived.Shelf.Hex.More
import Derived.Test.YtfkecmlmnhbmoaaGreatDoorY1
set_option linter.unusedVariables false
set_option linter.unusedSimpArgs false
namespace Go.Proofs.YtfkecmlmnhbmoaaGreatDoor
def numD (n:Nat):Nat:=if h:n=0 then 0 else numD (n / 10) + 1
termination_by n
decreasing_by omega
theorem numD_zero:numD 0=0:=by rw [numD];simp
theorem numD_pos {n:Nat} (h:n≠0):numD n=numD (n / 10) + 1:=by rw [numD];simp [h]
theorem numD_lt:∀ (n:Nat),n < 10 ^ numD n:=by
 intro n
 induction n using Nat.strongRecOn with
 | _ n ih =>
  by_cases h:n=0
  ·subst h;rw [numD_zero];decide
  ·rw [numD_pos h,Nat.pow_succ]
   have:=ih (n / 10) (by omega)
   omega
theorem numD_le:∀ (n:Nat),n≠0→10 ^ (numD n - 1)≤n:=by
 intro n
 induction n using Nat.strongRecOn with
 | _ n ih =>
  intro h
  rw [numD_pos h]
  by_cases h2:n / 10=0
  ·rw [h2,numD_zero];simp;omega
  ·have h3:=ih (n / 10) (by omega) h2
   have h4:numD (n / 10)=numD (n / 10 / 10) + 1:=numD_pos h2
   rw [h4] at h3 ⊢
   simp only [Nat.add_sub_cancel] at h3 ⊢
   rw [Nat.pow_succ]
   omega
theorem numD_pos1 {n:Nat} (h:n≠0):1≤numD n:=by rw [numD_pos h];omega
theorem pow10_pos (m:Nat):0 < 10 ^ m:=Nat.pow_pos (by decide)
theorem pow10_le {a b:Nat} (h:a≤b):10 ^ a≤10 ^ b:=Nat.pow_le_pow_right (by decide) h
theorem pow10_lt {a b:Nat} (h:10 ^ a < 10 ^ b):a < b:=by
 by_cases hh:a < b
 ·exact hh
 ·have:=pow10_le (a:=b) (b:=a) (by omega);omega
theorem numD_le_of {n m:Nat} (h:n < 10 ^ m):numD n≤m:=by
 by_cases h0:n=0
 ·subst h0;rw [numD_zero];omega
 ·have h1:=numD_le n h0
  have:=pow10_lt (Nat.lt_of_le_of_lt h1 h)
  omega
theorem numD_ge_of {n m:Nat} (h:10 ^ m≤n):m + 1≤numD n:=by
 have h1:=numD_lt n
 have:=pow10_lt (Nat.lt_of_le_of_lt h h1)
 omega
theorem numD_eq {n m:Nat} (h1:10 ^ m≤n) (h2:n < 10 ^ (m + 1)):numD n=m + 1:=by
 have:=numD_le_of h2
 have:=numD_ge_of h1
 omega
theorem numD_mono {a b:Nat} (h:a≤b):numD a≤numD b:=numD_le_of (Nat.lt_of_le_of_lt h (numD_lt b))
def strip (n:Nat):Nat:=if h:n≠0∧n % 10=0 then strip (n / 10) else n
termination_by n
decreasing_by omega
theorem strip_step {n:Nat} (h0:n≠0) (h:n % 10=0):strip n=strip (n / 10):=by rw [strip];simp [h0,h]
theorem strip_stop {n:Nat} (h:n % 10≠0):strip n=n:=by rw [strip];simp [h]
theorem strip_spec:∀ (n:Nat),n≠0→∃ j,n=strip n * 10 ^ j∧strip n≠0∧numD n=numD (strip n) + j∧strip n % 10≠0:=by
 intro n
 induction n using Nat.strongRecOn with
 | _ n ih =>
  intro h
  by_cases h2:n % 10=0
  ·obtain ⟨j,h3,h4,h5,h6⟩:=ih (n / 10) (by omega) (by omega)
   rw [strip_step h h2]
   refine ⟨j + 1,?_,h4,?_,h6⟩
   ·rw [Nat.pow_succ,←Nat.mul_assoc,←h3];omega
   ·rw [numD_pos h,h5];omega
  ·exact ⟨0,by rw [strip_stop h2];omega,by rw [strip_stop h2];exact h,by rw [strip_stop h2];omega,by rw [strip_stop h2];exact h2⟩
theorem strip_pos {n:Nat} (h:n≠0):strip n≠0:=by obtain ⟨j,_,h2,_⟩:=strip_spec n h;exact h2
theorem strip_numD {n:Nat} (h:n≠0):numD (strip n)≤numD n:=by obtain ⟨j,_,_,h3,_⟩:=strip_spec n h;omega
theorem strip_lead {n c:Nat} (h:n≠0):n < c * 10 ^ (numD n - 1)↔strip n < c * 10 ^ (numD (strip n) - 1):=by
 obtain ⟨j,h1,h2,h3,_⟩:=strip_spec n h
 have h4:=numD_pos1 h2
 have e:c * 10 ^ (numD n - 1)=c * 10 ^ (numD (strip n) - 1) * 10 ^ j:=by
  rw [h3,show numD (strip n) + j - 1=(numD (strip n) - 1) + j by omega,Nat.pow_add,Nat.mul_assoc]
 rw [e]
 generalize strip n=m at *
 rw [show n=m * 10 ^ j from h1]
 exact Nat.mul_lt_mul_right (pow10_pos j)
theorem numD_mul_lt {n a c:Nat} (h:a < 10 ^ c):numD (n * a)≤numD n + c:=by
 apply numD_le_of
 rw [Nat.pow_add]
 have h1:=numD_lt n
 by_cases h0:n=0
 ·subst h0;simp;exact Nat.mul_pos (pow10_pos _) (pow10_pos _)
 ·calc n * a < n * 10 ^ c:=Nat.mul_lt_mul_of_pos_left h (by omega)
   _≤10 ^ numD n * 10 ^ c:=Nat.mul_le_mul_right _ (Nat.le_of_lt h1)
theorem numD_mul_ge {n a c:Nat} (h0:n≠0) (h:10 ^ c≤a):numD n + c≤numD (n * a):=by
 have h1:=numD_le n h0
 have h2:=numD_pos1 h0
 have h3:10 ^ (numD n - 1 + c)≤n * a:=by rw [Nat.pow_add];exact Nat.mul_le_mul h1 h
 have:=numD_ge_of h3
 omega
def rsN (k n:Nat):Nat:=strip (n * 5 ^ k)
def rsP (k n:Nat) (dp:Int):Int:=dp + numD (n * 5 ^ k) - numD n - k
def lsN (k n:Nat):Nat:=strip (n * 2 ^ k)
def lsP (k n:Nat) (dp:Int):Int:=dp + numD (n * 2 ^ k) - numD n
theorem rsN_pos {k n:Nat} (h:n≠0):rsN k n≠0:=strip_pos (Nat.mul_ne_zero h (Nat.pos_iff_ne_zero.1 (Nat.pow_pos (by decide))))
theorem lsN_pos {k n:Nat} (h:n≠0):lsN k n≠0:=strip_pos (Nat.mul_ne_zero h (Nat.pos_iff_ne_zero.1 (Nat.pow_pos (by decide))))
theorem pow5_ne (k:Nat):5 ^ k≠0:=Nat.pos_iff_ne_zero.1 (Nat.pow_pos (by decide))
theorem pow2_ne (k:Nat):2 ^ k≠0:=Nat.pos_iff_ne_zero.1 (Nat.pow_pos (by decide))
theorem rsN_numD {k n:Nat} (h:n≠0):numD (rsN k n)≤numD n + k:=by
 refine Nat.le_trans (strip_numD (Nat.mul_ne_zero h (pow5_ne k))) ?_
 by_cases hk:k=0
 ·subst hk;simp
 ·exact numD_mul_lt (Nat.pow_lt_pow_left (by decide) hk)
theorem lsN_numD {k n:Nat} (h:n≠0):numD (lsN k n)≤numD n + k:=by
 refine Nat.le_trans (strip_numD (Nat.mul_ne_zero h (pow2_ne k))) ?_
 by_cases hk:k=0
 ·subst hk;simp
 ·exact numD_mul_lt (Nat.pow_lt_pow_left (by decide) hk)
theorem rsP_le {k n c:Nat} {dp:Int} (h:5 ^ k < 10 ^ c):rsP k n dp≤dp + c - k:=by
 have:=numD_mul_lt (n:=n) h
 unfold rsP;omega
theorem lsP_le {k n c:Nat} {dp:Int} (h:2 ^ k < 10 ^ c):lsP k n dp≤dp + c:=by
 have:=numD_mul_lt (n:=n) h
 unfold lsP;omega
theorem lsP_ge {k n c:Nat} {dp:Int} (h0:n≠0) (h:10 ^ c≤2 ^ k):dp + c≤lsP k n dp:=by
 have:=numD_mul_ge h0 h
 unfold lsP;omega
def ledB (n c:Nat):Bool:=decide (n < c * 10 ^ (numD n - 1))
def ptab:Int→Nat
 | 0=>1 | 1=>3 | 2=>6 | 3=>9 | 4=>13 | 5=>16 | 6=>19 | 7=>23 | 8=>26 | _=>27
def dnL:Nat→Nat→Int→Int→Nat × Int × Int
 | 0,n,dp,ex=>(n,dp,ex)
 | m + 1,n,dp,ex=>if 0 < dp then dnL m (rsN (ptab dp) n) (rsP (ptab dp) n dp) (ex + ptab dp) else (n,dp,ex)
def potD (n:Nat) (dp:Int):Nat:=if dp≤0 then 0 else if dp=1 then (if ledB n 8 then 3 else 6) else if dp≤8 then 32 else 59
theorem ptab_big {dp:Int} (h:9≤dp):ptab dp=27:=by
 unfold ptab;split<;>first | rfl | omega
theorem potD_step {n:Nat} {dp:Int} (h0:n≠0) (h:0 < dp) (h2:dp≤16):potD (rsN (ptab dp) n) (rsP (ptab dp) n dp) + ptab dp≤potD n dp∧1≤ptab dp∧rsP (ptab dp) n dp≤dp:=by
 have p1:∀ m,potD m 1≤6:=by intro m;unfold potD;simp;split<;>omega
 have p6:∀ m (d:Int),d≤1→potD m d≤6:=by
  intro m d hd
  by_cases e:d=1
  ·subst e;exact p1 m
  ·unfold potD;rw [if_pos (by omega)];omega
 have p32:∀ m (d:Int),d≤8→potD m d≤32:=by
  intro m d hd
  unfold potD
  repeat' split
  all_goals omega
 by_cases h9:9≤dp
 ·rw [ptab_big h9]
  have e:=rsP_le (n:=n) (dp:=dp) (k:=27) (c:=19) (by decide)
  have:=p32 (rsN 27 n) (rsP 27 n dp) (by omega)
  have e2:potD n dp=59:=by unfold potD;rw [if_neg (by omega),if_neg (by omega),if_neg (by omega)]
  exact ⟨by omega,by omega,by omega⟩
 ·have hc : dp = 1 ∨ dp = 2 ∨ dp = 3 ∨ dp = 4 ∨ dp = 5 ∨ dp = 6 ∨ dp = 7 ∨ dp = 8 := by omega
  rcases hc with e | e | e | e | e | e | e | e
  ·subst e
   have e1:=rsP_le (n:=n) (dp:=1) (k:=3) (c:=3) (by decide)
   rw [show ptab 1=3 from rfl]
   have e1':rsP 3 n 1≤1:=by omega
   refine ⟨?_,by omega,e1'⟩
   by_cases hl:n < 8 * 10 ^ (numD n - 1)
   ·have e2:potD n 1=3:=by unfold potD ledB;simp [hl]
    have e3:numD (n * 5 ^ 3)≤numD n + 2:=by
     apply numD_le_of
     have:=numD_pos1 h0
     have e4:10 ^ (numD n + 2)=1000 * 10 ^ (numD n - 1):=by
      rw [show numD n + 2=(numD n - 1) + 3 by omega,Nat.pow_add];omega
     omega
    have e5:rsP 3 n 1≤0:=by unfold rsP;omega
    have e6:potD (rsN 3 n) (rsP 3 n 1)=0:=by unfold potD;rw [if_pos e5]
    omega
   ·have e2 : potD n 1 = 6 := by unfold potD ledB; simp [hl]
    have e3 : potD (rsN 3 n) (rsP 3 n 1) ≤ 3 := by
     by_cases e4:rsP 3 n 1=1
     ·rw [e4]
      have e5:numD (n * 5 ^ 3)=numD n + 3:=by unfold rsP at e4;omega
      have hne:n * 5 ^ 3≠0:=by omega
      have e6:rsN 3 n < 8 * 10 ^ (numD (rsN 3 n) - 1):=by
       unfold rsN
       rw [←strip_lead hne,e5]
       have:=numD_lt n
       have e7:10 ^ (numD n + 3 - 1)=100 * 10 ^ numD n:=by
        rw [show numD n + 3 - 1=numD n + 2 by omega,Nat.pow_add];omega
       omega
      unfold potD ledB
      simp [e6]
     ·unfold potD;rw [if_pos (by omega)];omega
    omega
  ·subst e
   have e:=rsP_le (n:=n) (dp:=2) (k:=6) (c:=5) (by decide)
   have:=p6 (rsN 6 n) (rsP 6 n 2) (by omega)
   rw [show ptab 2=6 from rfl];have e2:potD n 2=32:=by unfold potD;simp
   exact ⟨by omega,by omega,by omega⟩
  ·subst e
   have e:=rsP_le (n:=n) (dp:=3) (k:=9) (c:=7) (by decide)
   have:=p6 (rsN 9 n) (rsP 9 n 3) (by omega)
   rw [show ptab 3=9 from rfl];have e2:potD n 3=32:=by unfold potD;simp
   exact ⟨by omega,by omega,by omega⟩
  ·subst e
   have e:=rsP_le (n:=n) (dp:=4) (k:=13) (c:=10) (by decide)
   have:=p6 (rsN 13 n) (rsP 13 n 4) (by omega)
   rw [show ptab 4=13 from rfl];have e2:potD n 4=32:=by unfold potD;simp
   exact ⟨by omega,by omega,by omega⟩
  ·subst e
   have e:=rsP_le (n:=n) (dp:=5) (k:=16) (c:=12) (by decide)
   have:=p6 (rsN 16 n) (rsP 16 n 5) (by omega)
   rw [show ptab 5=16 from rfl];have e2:potD n 5=32:=by unfold potD;simp
   exact ⟨by omega,by omega,by omega⟩
  ·subst e
   have e:=rsP_le (n:=n) (dp:=6) (k:=19) (c:=14) (by decide)
   have:=p6 (rsN 19 n) (rsP 19 n 6) (by omega)
   rw [show ptab 6=19 from rfl];have e2:potD n 6=32:=by unfold potD;simp
   exact ⟨by omega,by omega,by omega⟩
  ·subst e
   have e:=rsP_le (n:=n) (dp:=7) (k:=23) (c:=17) (by decide)
   have:=p6 (rsN 23 n) (rsP 23 n 7) (by omega)
   rw [show ptab 7=23 from rfl];have e2:potD n 7=32:=by unfold potD;simp
   exact ⟨by omega,by omega,by omega⟩
  ·subst e
   have e:=rsP_le (n:=n) (dp:=8) (k:=26) (c:=19) (by decide)
   have:=p6 (rsN 26 n) (rsP 26 n 8) (by omega)
   rw [show ptab 8=26 from rfl];have e2:potD n 8=32:=by unfold potD;simp
   exact ⟨by omega,by omega,by omega⟩
end Go.Proofs.YtfkecmlmnhbmoaaGreatDoor
namespace Go.Proofs.YtfkecmlmnhbmoaaGreatDoor
def upC (n:Nat) (dp:Int):Bool:=decide (dp < 0) || (decide (dp=0) && ledB n 5)
def upL:Nat→Nat→Int→Int→Nat × Int × Int
 | 0,n,dp,ex=>(n,dp,ex)
 | m + 1,n,dp,ex=>if upC n dp=true then upL m (lsN (ptab (-dp)) n) (lsP (ptab (-dp)) n dp) (ex - ptab (-dp)) else (n,dp,ex)
def potL (n:Nat):Nat:=if ledB n 5=false then 0 else if 5 * 10 ^ (numD n - 1)≤2 * n then 1 else if 5 * 10 ^ (numD n - 1)≤4 * n then 2 else 3
def potU (n:Nat) (dp:Int):Nat:=if 0 < dp then 0 else if dp=0 then potL n else if dp=-1 then (if ledB n 2 then 9 else 6) else if -8≤dp then 35 else 27 * ((-dp - 1) / 8).toNat + 35
theorem potL_le (n : Nat) : potL n ≤ 3 := by unfold potL; repeat' split
                                             all_goals omega
theorem potU_9 (n:Nat) {dp:Int} (h:-1≤dp):potU n dp≤9:=by
 have:=potL_le n
 unfold potU
 repeat' split
 all_goals omega
theorem potU_35 (n:Nat) {dp:Int} (h:-8≤dp):potU n dp≤35:=by
 have:=potL_le n
 unfold potU
 repeat' split
 all_goals omega
theorem led_mul {n k:Nat} (h0:n≠0) (c:Nat):ledB (lsN k n) c=decide (n * 2 ^ k < c * 10 ^ (numD (n * 2 ^ k) - 1)):=by
 unfold ledB lsN
 rw [Bool.eq_iff_iff]
 simp only [decide_eq_true_eq]
 exact (strip_lead (Nat.mul_ne_zero h0 (pow2_ne k))).symm
theorem strip_half {n c m:Nat} (h:n≠0):c * 10 ^ (numD n - 1)≤m * n↔c * 10 ^ (numD (strip n) - 1)≤m * strip n:=by
 obtain ⟨j,h1,h2,h3,_⟩:=strip_spec n h
 have h4:=numD_pos1 h2
 have e:c * 10 ^ (numD n - 1)=c * 10 ^ (numD (strip n) - 1) * 10 ^ j:=by
  rw [h3,show numD (strip n) + j - 1=(numD (strip n) - 1) + j by omega,Nat.pow_add,Nat.mul_assoc]
 rw [e]
 generalize strip n=q at *
 rw [show m * n=m * q * 10 ^ j by rw [show n=q * 10 ^ j from h1,Nat.mul_assoc]]
 exact Nat.mul_le_mul_right_iff (pow10_pos j)
theorem potU_step {n:Nat} {dp:Int} (h0:n≠0) (h:upC n dp=true):potU (lsN (ptab (-dp)) n) (lsP (ptab (-dp)) n dp) + ptab (-dp)≤potU n dp∧1≤ptab (-dp)∧dp≤lsP (ptab (-dp)) n dp∧lsP (ptab (-dp)) n dp≤0:=by
 have hd1:=numD_pos1 h0
 have hlt:=numD_lt n
 have hle:=numD_le n h0
 have h10:10 ^ numD n=10 * 10 ^ (numD n - 1):=by
  conv=>lhs;rw [show numD n=(numD n - 1) + 1 by omega,Nat.pow_succ]
  omega
 by_cases h9:dp≤-9
 ·rw [ptab_big (by omega:9≤-dp)]
  have e1:=lsP_ge (dp:=dp) (k:=27) (c:=8) h0 (by decide)
  have e2:=lsP_le (n:=n) (dp:=dp) (k:=27) (c:=9) (by decide)
  have e3:potU n dp=27 * ((-dp - 1) / 8).toNat + 35:=by unfold potU;rw [if_neg (by omega),if_neg (by omega),if_neg (by omega),if_neg (by omega)]
  refine ⟨?_,by omega,by omega,by omega⟩
  by_cases h8:-8≤lsP 27 n dp
  ·have:=potU_35 (lsN 27 n) h8
   omega
  ·have e4:potU (lsN 27 n) (lsP 27 n dp)=27 * ((-lsP 27 n dp - 1) / 8).toNat + 35:=by unfold potU;rw [if_neg (by omega),if_neg (by omega),if_neg (by omega),if_neg (by omega)]
   omega
 ·have hdp:dp≤0:=by
   unfold upC at h
   by_cases hh:dp < 0
   ·omega
   ·simp [hh] at h;omega
  have hc:dp=0∨dp=-1∨dp=-2∨dp=-3∨dp=-4∨dp=-5∨dp=-6∨dp=-7∨dp=-8:=by omega
  rcases hc with e | e | e | e | e | e | e | e | e
  ·subst e
   have hl:ledB n 5=true:=by simpa [upC] using h
   rw [show ptab (-0)=1 from rfl]
   have hl2:n < 5 * 10 ^ (numD n - 1):=by simpa [ledB] using hl
   have hd:numD (n * 2 ^ 1)=numD n:=by
    have:=numD_le_of (n:=n * 2 ^ 1) (m:=numD n) (by omega)
    have:=numD_mono (a:=n) (b:=n * 2 ^ 1) (by omega)
    omega
   have e1:lsP 1 n 0=0:=by unfold lsP;omega
   rw [e1]
   refine ⟨?_,by omega,by omega,by omega⟩
   have e2:∀ m,potU m 0=potL m:=by intro m;unfold potU;simp
   rw [e2,e2]
   have hne:n * 2 ^ 1≠0:=by omega
   have e3:ledB (lsN 1 n) 5=decide (n * 2 ^ 1 < 5 * 10 ^ (numD n - 1)):=by rw [led_mul h0,hd]
   have e4:=strip_half (c:=5) (m:=2) hne
   have e5:=strip_half (c:=5) (m:=4) hne
   rw [hd] at e4 e5
   unfold potL
   rw [hl,e3]
   unfold lsN
   by_cases a1:5 * 10 ^ (numD n - 1)≤2 * n
   ·have:¬(n * 2 ^ 1 < 5 * 10 ^ (numD n - 1)):=by omega
    simp [this,a1]
   ·have b1:n * 2 ^ 1 < 5 * 10 ^ (numD n - 1):=by omega
    by_cases a2:5 * 10 ^ (numD n - 1)≤4 * n
    ·have b2:=e4.1 (by omega)
     simp [b1,a1,a2,b2]
    ·have b2:=e5.1 (by omega)
     have b3:¬5 * 10 ^ (numD (strip (n * 2 ^ 1)) - 1)≤2 * strip (n * 2 ^ 1):=fun x=>by have:=e4.2 x;omega
     simp [b1,a1,a2,b2]
     split<;>omega
  ·subst e
   rw [show ptab (- -1)=3 from rfl]
   have e2:=lsP_le (n:=n) (dp:=-1) (k:=3) (c:=1) (by decide)
   have e1:=lsP_ge (dp:=-1) (k:=3) (c:=0) h0 (by decide)
   refine ⟨?_,by omega,by omega,by omega⟩
   by_cases e3:lsP 3 n (-1)=0
   ·rw [e3]
    have e4:potU (lsN 3 n) 0≤3:=by have:=potL_le (lsN 3 n);unfold potU;simpa using this
    have e5:6≤potU n (-1):=by unfold potU;simp;split<;>omega
    omega
   ·have e4:lsP 3 n (-1)=-1:=by omega
    have e5:numD (n * 2 ^ 3)=numD n:=by unfold lsP at e4;omega
    have e6:=numD_lt (n * 2 ^ 3)
    rw [e5] at e6
    have e7:ledB n 2=true:=by unfold ledB;simp;omega
    have e8:ledB (lsN 3 n) 2=false:=by rw [led_mul h0,e5];simp;omega
    rw [e4]
    unfold potU
    simp [e7,e8]
  ·subst e
   rw [show ptab (- -2)=6 from rfl]
   have e2:=lsP_le (n:=n) (dp:=-2) (k:=6) (c:=2) (by decide)
   have e1:=lsP_ge (dp:=-2) (k:=6) (c:=1) h0 (by decide)
   have:=potU_9 (lsN 6 n) (dp:=lsP 6 n (-2)) (by omega)
   have e3:potU n (-2)=35:=by unfold potU;simp
   exact ⟨by omega,by omega,by omega,by omega⟩
  ·subst e
   rw [show ptab (- -3)=9 from rfl]
   have e2:=lsP_le (n:=n) (dp:=-3) (k:=9) (c:=3) (by decide)
   have e1:=lsP_ge (dp:=-3) (k:=9) (c:=2) h0 (by decide)
   have:=potU_9 (lsN 9 n) (dp:=lsP 9 n (-3)) (by omega)
   have e3:potU n (-3)=35:=by unfold potU;simp
   exact ⟨by omega,by omega,by omega,by omega⟩
  ·subst e
   rw [show ptab (- -4)=13 from rfl]
   have e2:=lsP_le (n:=n) (dp:=-4) (k:=13) (c:=4) (by decide)
   have e1:=lsP_ge (dp:=-4) (k:=13) (c:=3) h0 (by decide)
   have:=potU_9 (lsN 13 n) (dp:=lsP 13 n (-4)) (by omega)
   have e3:potU n (-4)=35:=by unfold potU;simp
   exact ⟨by omega,by omega,by omega,by omega⟩
  ·subst e
   rw [show ptab (- -5)=16 from rfl]
   have e2:=lsP_le (n:=n) (dp:=-5) (k:=16) (c:=5) (by decide)
   have e1:=lsP_ge (dp:=-5) (k:=16) (c:=4) h0 (by decide)
   have:=potU_9 (lsN 16 n) (dp:=lsP 16 n (-5)) (by omega)
   have e3:potU n (-5)=35:=by unfold potU;simp
   exact ⟨by omega,by omega,by omega,by omega⟩
  ·subst e
   rw [show ptab (- -6)=19 from rfl]
   have e2:=lsP_le (n:=n) (dp:=-6) (k:=19) (c:=6) (by decide)
   have e1:=lsP_ge (dp:=-6) (k:=19) (c:=5) h0 (by decide)
   have:=potU_9 (lsN 19 n) (dp:=lsP 19 n (-6)) (by omega)
   have e3:potU n (-6)=35:=by unfold potU;simp
   exact ⟨by omega,by omega,by omega,by omega⟩
  ·subst e
   rw [show ptab (- -7)=23 from rfl]
   have e2:=lsP_le (n:=n) (dp:=-7) (k:=23) (c:=7) (by decide)
   have e1:=lsP_ge (dp:=-7) (k:=23) (c:=6) h0 (by decide)
   have:=potU_9 (lsN 23 n) (dp:=lsP 23 n (-7)) (by omega)
   have e3:potU n (-7)=35:=by unfold potU;simp
   exact ⟨by omega,by omega,by omega,by omega⟩
  ·subst e
   rw [show ptab (- -8)=26 from rfl]
   have e2:=lsP_le (n:=n) (dp:=-8) (k:=26) (c:=8) (by decide)
   have e1:=lsP_ge (dp:=-8) (k:=26) (c:=7) h0 (by decide)
   have:=potU_9 (lsN 26 n) (dp:=lsP 26 n (-8)) (by omega)
   have e3:potU n (-8)=35:=by unfold potU;simp
   exact ⟨by omega,by omega,by omega,by omega⟩
end Go.Proofs.YtfkecmlmnhbmoaaGreatDoor
namespace Go.Proofs.YtfkecmlmnhbmoaaGreatDoor
open Go Go.RowKit
def bi (c:UInt8):Value:=.int .u8 (c.toNat:Int)
def decCells (A:By) (nd:Nat) (dp:Int) (neg tr:Bool):List Value:=A.map bi ++ [.int .i64 nd,.int .i64 dp,.bool neg,.bool tr]
def DecAt (w:World) (b:Nat) (A:By) (nd:Nat) (dp:Int) (neg tr:Bool):Prop :=
 A.length=800∧w.heap[b]?=some (.cells (decCells A nd dp neg tr).toArray 190 (0,0))
section
variable {w:World} {b:Nat} {A:By} {nd:Nat} {dp:Int} {neg tr:Bool}
theorem DecAt.cells (h:DecAt w b A nd dp neg tr):w.cell? ⟨b,800,none⟩=some (.int .i64 nd)∧w.cell? ⟨b,801,none⟩=some (.int .i64 dp)∧w.cell? ⟨b,802,none⟩=some (.bool neg)∧w.cell? ⟨b,803,none⟩=some (.bool tr)∧(∀ i,w.frozen? ⟨b,i,none⟩=false):=by
 obtain ⟨h0,h⟩:=h
 have e:∀ j,(decCells A nd dp neg tr)[800 + j]?=[Value.int .i64 nd,.int .i64 dp,.bool neg,.bool tr][j]?:=by
  intro j
  unfold decCells
  rw [List.getElem?_append_right (by simp;omega)]
  simp [h0]
 have e0:=e 0;have e1:=e 1;have e2:=e 2;have e3:=e 3
 simp at e0 e1 e2 e3
 simp [World.cell?,World.frozen?,h,e0,e1,e2,e3]
theorem DecAt.dig (h:DecAt w b A nd dp neg tr) {i:Nat} (hi:i < 800):w.cell? ⟨b,i,none⟩=some (.int .u8 ((A.getD i 0).toNat:Int)):=by
 obtain ⟨h0,h⟩:=h
 have hi2:i < A.length:=by omega
 have e:(decCells A nd dp neg tr)[i]?=some (bi (A.getD i 0)):=by
  unfold decCells
  rw [List.getElem?_append_left (by simp;omega)]
  simp [hi2]
 simp [World.cell?,h,e,bi]
theorem DecAt.digE (h:DecAt w b A nd dp neg tr) {i:Nat} (hi:i < 800):∃ c:UInt8,A.getD i 0=c∧w.cell? ⟨b,i,none⟩=some (.int .u8 (c.toNat:Int)):=⟨_,rfl,h.dig hi⟩
theorem DecAt.lt (h:DecAt w b A nd dp neg tr):b < w.heap.size:=(Array.getElem?_eq_some_iff.1 h.2).1
theorem DecAt.of_heap {w':World} (h:DecAt w b A nd dp neg tr) (e:w'.heap[b]?=w.heap[b]?):DecAt w' b A nd dp neg tr:=⟨h.1,e.trans h.2⟩
theorem DecAt.drewN (h:DecAt w b A nd dp neg tr) (n:Nat):DecAt (w.drewN n) b A nd dp neg tr:=h
theorem decSet (w:World) (b i:Nat) (v:Value) (cs:Array Value) (T:TypeId) (f:Nat × Nat) (h:w.heap[b]?=some (.cells cs T f)):(w.setCell ⟨b,i,none⟩ v).heap[b]?=some (.cells (cs.setIfInBounds i v) T f):=by
 simp [World.setCell,Array.getElem?_modify,h]
theorem DecAt.setNd (h:DecAt w b A nd dp neg tr) (n:Nat):DecAt (w.setCell ⟨b,800,none⟩ (.int .i64 n)) b A n dp neg tr:=by
 refine ⟨h.1,?_⟩
 rw [decSet _ _ _ _ _ _ _ h.2]
 simp only [decCells,List.setIfInBounds_toArray]
 rw [List.set_append_right _ _ (by simp [h.1])]
 simp [h.1]
theorem DecAt.setDp (h:DecAt w b A nd dp neg tr) (n:Int):DecAt (w.setCell ⟨b,801,none⟩ (.int .i64 n)) b A nd n neg tr:=by
 refine ⟨h.1,?_⟩
 rw [decSet _ _ _ _ _ _ _ h.2]
 simp only [decCells,List.setIfInBounds_toArray]
 rw [List.set_append_right _ _ (by simp [h.1])]
 simp [h.1]
theorem DecAt.setNeg (h:DecAt w b A nd dp neg tr) (n:Bool):DecAt (w.setCell ⟨b,802,none⟩ (.bool n)) b A nd dp n tr:=by
 refine ⟨h.1,?_⟩
 rw [decSet _ _ _ _ _ _ _ h.2]
 simp only [decCells,List.setIfInBounds_toArray]
 rw [List.set_append_right _ _ (by simp [h.1])]
 simp [h.1]
theorem DecAt.setTr (h:DecAt w b A nd dp neg tr) (n:Bool):DecAt (w.setCell ⟨b,803,none⟩ (.bool n)) b A nd dp neg n:=by
 refine ⟨h.1,?_⟩
 rw [decSet _ _ _ _ _ _ _ h.2]
 simp only [decCells,List.setIfInBounds_toArray]
 rw [List.set_append_right _ _ (by simp [h.1])]
 simp [h.1]
theorem DecAt.setDig (h:DecAt w b A nd dp neg tr) {i:Nat} (hi:i < 800) (c:UInt8):DecAt (w.setCell ⟨b,i,none⟩ (.int .u8 (c.toNat:Int))) b (A.set i c) nd dp neg tr:=by
 refine ⟨by simp [h.1],?_⟩
 rw [decSet _ _ _ _ _ _ _ h.2]
 simp only [decCells,List.setIfInBounds_toArray]
 rw [List.set_append_left _ _ (by simp [h.1];omega)]
 simp [List.map_set,bi]
theorem DecAt.grown {w':World} {r:Option Nat} (h:DecAt w b A nd dp neg tr) (hg:w.grownBy w' r) (hr:r≠some b):DecAt w' b A nd dp neg tr :=
 h.of_heap (hg.block b h.lt (fun e=>hr e.symm))
end
def trimN (A:By):Nat→Nat
 | 0=>0
 | n + 1=>if (A.getD n 0).toNat=48 then trimN A n else n + 1
theorem trimN_le (A:By):∀ n,trimN A n≤n:=by
 intro n
 induction n with
 | zero=>exact Nat.le_refl _
 | succ n ih=>simp only [trimN];split<;>omega
def dpN (n:Nat) (dp:Int):Int:=if n=0 then 0 else dp
set_option maxRecDepth 100000 in
set_option maxHeartbeats 40000000 in
theorem trim_any (w:World) (b:Nat) (A:By) (nd:Nat) (dp:Int) (neg tr:Bool) (hD:DecAt w b A nd dp neg tr) (hnd:nd≤800) :
  Calls Tryz.prog 171 #[.pointer (some ⟨b,0,none⟩)] w fun e w'=>e=.returned (.tuple #[])∧DecAt w' b A (trimN A nd) (dpN (trimN A nd) dp) neg tr∧w.grownBy w' (some b):=by
 have HD:=Lib.hid hD
 clear hD
 generalize hT0:trimN A nd=T
 have HT0:=Lib.hid hT0;clear hT0
 go_enter Tryz.func171,Tryz.ntmps171
 go_wp2_with fail
 go_loopg [] nd (fun g wr=>∃ n,g=n∧n≤nd∧trimN A n=T∧DecAt wr b A n dp neg tr∧w.grownBy wr (some b))
 case atStart=>exact ⟨nd,rfl,Nat.le_refl _,HT0.out,HD.out,World.grownBy.refl _ _⟩
 case round =>
  obtain ⟨n,hg,hn,hT,hD,hG⟩:=hrel
  obtain ⟨c0,c1,c2,c3,cf⟩:=hD.cells
  have HT:=Lib.hid hT;clear hT
  have HG:=Lib.hid hG;clear hG
  have Hg:=Lib.hid hg;clear hg
  clear HD
  cases n with
  | zero =>
   have HD:=Lib.hid hD;clear hD
   go_wp2_with fail
   go_quiet ((first|(go_at_call 42;with_reducible first|exact qaw _|exact qbw _)|(go_at_call 43;with_reducible first|exact qap _|exact qbp _)|(go_at_call 52;with_reducible first|exact qad _|exact qbd _)|(go_at_call 76;with_reducible first|exact qar _|exact qbr _)|(go_at_call 75;with_reducible first|exact qag _|exact qbg _)));go_wp2_with fail
   go_end0
   have e:T=0:=by rw [←HT.out];rfl
   rw [e]
   exact ⟨rfl,HD.out.setDp _,(by repeat (first | exact HG.out | apply gr_set | apply gr_drewN | apply gr_drew | apply gr_alloc))⟩
  | succ n =>
   obtain ⟨c,hc,cd⟩:=hD.digE (i:=n) (by omega)
   have HD:=Lib.hid hD;clear hD
   by_cases h48:c.toNat=48
   ·rw [h48] at cd
    have H48:=Lib.hid (show (A.getD n 0).toNat=48 by rw [hc];exact h48)
    clear h48 hc
    go_wp2_with fail
    go_quiet ((first|(go_at_call 42;with_reducible first|exact qaw _|exact qbw _)|(go_at_call 43;with_reducible first|exact qap _|exact qbp _)|(go_at_call 52;with_reducible first|exact qad _|exact qbd _)|(go_at_call 76;with_reducible first|exact qar _|exact qbr _)|(go_at_call 75;with_reducible first|exact qag _|exact qbg _)));go_wp2_with fail
    go_roundg n
    case measure=>rw [Hg.out];omega
    case rel=>exact ⟨n,rfl,by omega,by rw [←HT.out];simp only [trimN];rw [if_pos H48.out],HD.out.setNd n,(by repeat (first | exact HG.out | apply gr_set | apply gr_drewN | apply gr_drew | apply gr_alloc))⟩
   ·have hb:((c.toNat:Int) == 48)=false:=by simpa using fun e:(c.toNat:Int)=48=>h48 (by omega)
    have H48:=Lib.hid (show ¬(A.getD n 0).toNat=48 by rw [hc];exact h48)
    clear h48 hc
    go_wp2_with fail
    go_quiet ((first|(go_at_call 42;with_reducible first|exact qaw _|exact qbw _)|(go_at_call 43;with_reducible first|exact qap _|exact qbp _)|(go_at_call 52;with_reducible first|exact qad _|exact qbd _)|(go_at_call 76;with_reducible first|exact qar _|exact qbr _)|(go_at_call 75;with_reducible first|exact qag _|exact qbg _)));go_wp2_with fail
    go_end0
    have e:T=n + 1:=by rw [←HT.out];simp only [trimN];rw [if_neg H48.out]
    rw [e]
    exact ⟨rfl,HD.out.drewN _,(by repeat (first | exact HG.out | apply gr_set | apply gr_drewN | apply gr_drew | apply gr_alloc))⟩
end Go.Proofs.YtfkecmlmnhbmoaaGreatDoor
namespace Go.Proofs.YtfkecmlmnhbmoaaGreatDoor
theorem hexVal_range (n:Int):hexVal n=-1∨0≤hexVal n∧hexVal n≤15:=by
 unfold hexVal
 repeat' split
 all_goals omega
def ub (n:Int):UInt8:=UInt8.ofNat n.toNat
theorem ub_of {n:Int} (h0:0≤n) (h1:n≤255):n=((ub n).toNat:Int):=byte_of n h0 h1
theorem ub_mod {n:Int} (h0:0≤n) (h1:n≤255):n % 256=((ub n).toNat:Int):=by rw [Int.emod_eq_of_lt h0 (by omega)];exact byte_of n h0 h1
def hexF:By→Bool→Int→By→Bool→Int × By × By × Bool
 | [],_,_,_,o=>(1,[],[],o)
 | c::l,od,half,out,o =>
  if (c.toNat:Int) == 62 then (0,if od then out ++ [ub (half * 16)] else out,l,o)
  else if isWhite (c.toNat:Int) then hexF l od half out (o || od || (c.toNat:Int) == 0)
  else if hexVal (c.toNat:Int) < 0 then (2,[],l,o)
  else if od then hexF l false half (out ++ [ub (half * 16 + hexVal (c.toNat:Int))]) o
  else hexF l true (hexVal (c.toNat:Int)) out o
def nameB:By→By→Option By
 | [],out=>some out
 | c :: l, out =>
  if (c.toNat:Int) != 35 then nameB l (out ++ [c])
  else match l with
   | a::b::l'=>if hexVal (a.toNat:Int) < 0∨hexVal (b.toNat:Int) < 0 then none
    else if 16 * hexVal (a.toNat:Int) + hexVal (b.toNat:Int) == 0 then none
    else nameB l' (out ++ [ub (16 * hexVal (a.toNat:Int) + hexVal (b.toNat:Int))])
   | _=>none
theorem nameB_plain {c:UInt8} {l out:By} (h:((c.toNat:Int) != 35)=true):nameB (c::l) out=nameB l (out ++ [c]):=by
 cases l with
 | nil=>simp [nameB,h]
 | cons a l=>cases l<;>simp [nameB,h]
theorem nameB_1 {c:UInt8} {out:By} (h:((c.toNat:Int) != 35)=false):nameB [c] out=none:=by simp [nameB,h]
theorem nameB_2 {c a:UInt8} {out:By} (h:((c.toNat:Int) != 35)=false):nameB [c,a] out=none:=by simp [nameB,h]
theorem nameB_3 {c a b:UInt8} {l out:By} (h:((c.toNat:Int) != 35)=false):nameB (c::a::b::l) out=(if hexVal (a.toNat:Int) < 0∨hexVal (b.toNat:Int) < 0 then none
  else if 16 * hexVal (a.toNat:Int) + hexVal (b.toNat:Int) == 0 then none else nameB l (out ++ [ub (16 * hexVal (a.toNat:Int) + hexVal (b.toNat:Int))])):=by
 rw [nameB];simp [h]
end Go.Proofs.YtfkecmlmnhbmoaaGreatDoor
namespace Go.Proofs.YtfkecmlmnhbmoaaGreatDoor
def numScan:By→Int→Int→Int→Option (Int × Int × Int)
 | [],d,p,a=>some (d,p,a)
 | c::l,d,p,a =>
  if isDig (c.toNat:Int) then numScan l (d + 1) p (if p == 0 then a + 1 else a)
  else if (c.toNat:Int) == 46 then numScan l d (p + 1) a
  else none
def numStrip:By→By
 | []=>[]
 | c::l=>if (c.toNat:Int) == 43∨(c.toNat:Int) == 45 then l else c::l
def numOk (l:By):Prop:=∃ d a,numScan (numStrip l) 0 0 0=some (d,1,a)∧1≤d∧d≤60∧a≤14
def numF (pf:By→Nat) (l:By):Int × Int × Nat × Int :=
 match numScan (numStrip l) 0 0 0 with
 | none=>(0,0,0,1)
 | some (d,p,a) =>
  if d == 0∨1 < p then (0,0,0,1)
  else if 14 < a∨60 < d then (0,0,0,2)
  else if p == 1 then (3,0,pf l,0)
  else match Lib.atoiAll l with
   | .ok n=>if 2147483647 < n∨n < -2147483648 then (0,0,0,2) else (2,n,0,0)
   | _=>(0,0,0,2)
end Go.Proofs.YtfkecmlmnhbmoaaGreatDoor
namespace Go.Proofs
open Go.Shelf
def Tryz.lays169_ren:Go.Shelf.Ren:=⟨fun | 169=>219 | n=>n,fun | 70=>294 | 9=>9 | 0=>0 | 72=>296 | 37=>84 | 127=>232 | 3=>3 | 5=>5 | n=>n,fun | n=>n⟩
theorem Tryz.lays169:Go.Proofs.Lays.n169 Tryz.prog Tryz.lays169_ren:={
 mixed:=by kernel_rfl
 f169:=Tryz.func219.trans (congrArg some (by kernel_rfl))
 t0:=Tryz.underlying0
 a0:=Tryz.isAgg0
 z0:=Tryz.sizeOf0
 v0:=Tryz.zeroValue0
 t3:=Tryz.underlying3
 a3:=Tryz.isAgg3
 z3:=Tryz.sizeOf3
 v3:=Tryz.zeroValue3
 t9:=Tryz.underlying9
 a9:=Tryz.isAgg9
 z9:=Tryz.sizeOf9
 v9:=Tryz.zeroValue9
 t37:=Tryz.underlying84
 a37:=Tryz.isAgg84
 z37:=Tryz.sizeOf84
 v37:=Tryz.zeroValue84
 t70:=Tryz.underlying294
 a70:=Tryz.isAgg294
 z70:=Tryz.sizeOf294
 v70:=Tryz.zeroValue294
 t72:=Tryz.underlying296
 a72:=Tryz.isAgg296
 z72:=Tryz.sizeOf296
 v72:=Tryz.zeroValue296
 t127:=Tryz.underlying232
 a127:=Tryz.isAgg232
 z127:=Tryz.sizeOf232
 v127:=Tryz.zeroValue232 }
theorem Tryz.Builder_Extra_169:Builder.Extra Tryz.prog Tryz.lays169_ren:={
 sizeBuilder:=by kernel_rfl
 liesBuilder:=by kernel_rfl
 t5:=Tryz.underlying5
 a5:=Tryz.isAgg5
 z5:=Tryz.sizeOf5
 v5:=Tryz.zeroValue5
 infoByte:=by kernel_rfl
 cellsByte:=by kernel_rfl
 sizeByte:=by kernel_rfl
 neB5:=by decide }
open Go.RowKit in
theorem Tryz.Builder_String_any (B b:Nat) (l:List UInt8) (w:World) (h:Lib.IsBuilder 296 5 B b (Lib.byteCells l) w) (hBw:B≤w.heap.size) :
  Calls Tryz.prog 219 #[.pointer (some ⟨b,0,none⟩)] w fun e w'=>e=.returned (.string ⟨l.toArray⟩)∧Below B w w':=Any.Builder_String_any Tryz.lays169 Tryz.Builder_Extra_169 B b l w h hBw
def Tryz.lays156_ren:Go.Shelf.Ren:=⟨fun | 156=>289 | 165=>290 | 166=>217 | 169=>219 | 240=>230 | 241=>291 | 276=>239 | 277=>292 | n=>n,fun | 31=>23 | 9=>9 | 3=>3 | 4=>4 | 0=>0 | 20=>20 | 72=>296 | 76=>118 | 70=>294 | 37=>84 | 75=>92 | 127=>232 | 164=>314 | 5=>5 | 80=>54 | n=>n,fun | n=>n⟩
theorem Tryz.lays156:Go.Proofs.Lays.n156 Tryz.prog Tryz.lays156_ren:={
 mixed:=by kernel_rfl
 f156:=Tryz.func289.trans (congrArg some (by kernel_rfl))
 f165:=Tryz.func290.trans (congrArg some (by kernel_rfl))
 f166:=Tryz.func217.trans (congrArg some (by kernel_rfl))
 f169:=Tryz.func219.trans (congrArg some (by kernel_rfl))
 f240:=Tryz.func230.trans (congrArg some (by kernel_rfl))
 f241:=Tryz.func291.trans (congrArg some (by kernel_rfl))
 f276:=Tryz.func239.trans (congrArg some (by kernel_rfl))
 f277:=Tryz.func292.trans (congrArg some (by kernel_rfl))
 t0:=Tryz.underlying0
 a0:=Tryz.isAgg0
 z0:=Tryz.sizeOf0
 v0:=Tryz.zeroValue0
 t3:=Tryz.underlying3
 a3:=Tryz.isAgg3
 z3:=Tryz.sizeOf3
 v3:=Tryz.zeroValue3
 t4:=Tryz.underlying4
 a4:=Tryz.isAgg4
 z4:=Tryz.sizeOf4
 v4:=Tryz.zeroValue4
 t9:=Tryz.underlying9
 a9:=Tryz.isAgg9
 z9:=Tryz.sizeOf9
 v9:=Tryz.zeroValue9
 t20:=Tryz.underlying20
 a20:=Tryz.isAgg20
 z20:=Tryz.sizeOf20
 v20:=Tryz.zeroValue20
 t31:=Tryz.underlying23
 a31:=Tryz.isAgg23
 z31:=Tryz.sizeOf23
 v31:=Tryz.zeroValue23
 t37:=Tryz.underlying84
 a37:=Tryz.isAgg84
 z37:=Tryz.sizeOf84
 v37:=Tryz.zeroValue84
 t70:=Tryz.underlying294
 a70:=Tryz.isAgg294
 z70:=Tryz.sizeOf294
 v70:=Tryz.zeroValue294
 t72:=Tryz.underlying296
 a72:=Tryz.isAgg296
 z72:=Tryz.sizeOf296
 v72:=Tryz.zeroValue296
 t75:=Tryz.underlying92
 a75:=Tryz.isAgg92
 z75:=Tryz.sizeOf92
 v75:=Tryz.zeroValue92
 t76:=Tryz.underlying118
 a76:=Tryz.isAgg118
 z76:=Tryz.sizeOf118
 v76:=Tryz.zeroValue118
 t127:=Tryz.underlying232
 a127:=Tryz.isAgg232
 z127:=Tryz.sizeOf232
 v127:=Tryz.zeroValue232
 t164:=Tryz.underlying314
 a164:=Tryz.isAgg314
 z164:=Tryz.sizeOf314
 v164:=Tryz.zeroValue314 }
theorem Tryz.Builder_Extra_156:Builder.Extra Tryz.prog Tryz.lays156_ren:={
 sizeBuilder:=by kernel_rfl
 liesBuilder:=by kernel_rfl
 t5:=Tryz.underlying5
 a5:=Tryz.isAgg5
 z5:=Tryz.sizeOf5
 v5:=Tryz.zeroValue5
 infoByte:=by kernel_rfl
 cellsByte:=by kernel_rfl
 sizeByte:=by kernel_rfl
 neB5:=by decide }
open Go.RowKit in
theorem Tryz.strings_Join_none (a:Option Addr) (c:Nat) (sep:ByteArray) (w:World) :
  Calls Tryz.prog 289 #[.slice a 0 c,.string sep] w fun e w'=>e=.returned (.string ⟨#[]⟩)∧w'=w:=Any.strings_Join_none Tryz.lays156 Tryz.Builder_Extra_156 a c sep w
open Go.RowKit in
theorem Tryz.strings_Join (bk o c:Nat) (xs:List ByteArray) (sep:ByteArray) (w:World) (hcells:∀ (j:Nat) x,xs[j]?=some x→w.cell? ⟨bk,o + j,none⟩=some (.string x)) (hbk:bk < w.heap.size) (hN:xs.length≤140737488355328) (hcap:xs.length≤c) (hlen:(Lib.join (xs.map (·.data.toList)) sep.data.toList).length≤140737488355328) :
  Calls Tryz.prog 289 #[.slice (some ⟨bk,o,none⟩) xs.length c,.string sep] w fun e w'=>e=.returned (.string ⟨(Lib.join (xs.map (·.data.toList)) sep.data.toList).toArray⟩)∧Below w.heap.size w w':=Any.strings_Join Tryz.lays156 Tryz.Builder_Extra_156 bk o c xs sep w hcells hbk hN hcap hlen
def Tryz.lays121_ren:Go.Shelf.Ren:=⟨fun | 121=>262 | 214=>263 | n=>n,fun | 4=>4 | 9=>9 | n=>n,fun | n=>n⟩
theorem Tryz.lays121:Go.Proofs.Lays.n121 Tryz.prog Tryz.lays121_ren:={
 mixed:=by kernel_rfl
 f121:=Tryz.func262.trans (congrArg some (by kernel_rfl))
 f214:=Tryz.func263.trans (congrArg some (by kernel_rfl))
 t4:=Tryz.underlying4
 a4:=Tryz.isAgg4
 z4:=Tryz.sizeOf4
 v4:=Tryz.zeroValue4
 t9:=Tryz.underlying9
 a9:=Tryz.isAgg9
 z9:=Tryz.sizeOf9
 v9:=Tryz.zeroValue9 }
open Go.RowKit in
theorem Tryz.strconv_FormatBool (b:Bool) (w:World) :
  Calls Tryz.prog 262 #[.bool b] w fun e w'=>e=.returned (.string ⟨(Lib.formatBool b).toArray⟩)∧w'=w:=Any.strconv_FormatBool Tryz.lays121 b w
def Tryz.lays129_ren:Go.Shelf.Ren:=⟨fun | 129=>116 | n=>n,fun | 53=>171 | 3=>3 | 4=>4 | 46=>197 | 5=>5 | 9=>9 | n=>n,fun | n=>n⟩
theorem Tryz.lays129:Go.Proofs.Lays.n129 Tryz.prog Tryz.lays129_ren:={
 mixed:=by kernel_rfl
 f129:=Tryz.func116.trans (congrArg some (by kernel_rfl))
 t3:=Tryz.underlying3
 a3:=Tryz.isAgg3
 z3:=Tryz.sizeOf3
 v3:=Tryz.zeroValue3
 t4:=Tryz.underlying4
 a4:=Tryz.isAgg4
 z4:=Tryz.sizeOf4
 v4:=Tryz.zeroValue4
 t5:=Tryz.underlying5
 a5:=Tryz.isAgg5
 z5:=Tryz.sizeOf5
 v5:=Tryz.zeroValue5
 t9:=Tryz.underlying9
 a9:=Tryz.isAgg9
 z9:=Tryz.sizeOf9
 v9:=Tryz.zeroValue9
 t46:=Tryz.underlying197
 a46:=Tryz.isAgg197
 z46:=Tryz.sizeOf197
 v46:=Tryz.zeroValue197
 t53:=Tryz.underlying171
 a53:=Tryz.isAgg171
 z53:=Tryz.sizeOf171
 v53:=Tryz.zeroValue171 }
theorem Tryz.bits_Len64 (x:Int) (w:World) (h0:0≤x) (h1:x≤18446744073709551615) :
  Calls Tryz.prog 116 #[.int .u64 x] w fun e w'=>e=.returned (.int .i64 (Lib.bitLen x.toNat))∧w'=w:=Any.bits_Len64 Tryz.lays129 x w h0 h1
def Tryz.laysM284_ren:Go.Shelf.Ren:=⟨fun | 284=>119 | 129=>116 | 317=>120 | 318=>168 | n=>n,fun | 53=>171 | 3=>3 | 212=>249 | 0=>0 | 4=>4 | 46=>197 | 5=>5 | 9=>9 | n=>n,fun | 17=>12 | n=>n⟩
theorem Tryz.laysM284:Go.Proofs.LaysM.n284 Tryz.prog Tryz.laysM284_ren:={
 mixed:=by kernel_rfl
 f129:=Tryz.func116.trans (congrArg some (by kernel_rfl))
 f284:=Tryz.func119.trans (congrArg some (by kernel_rfl))
 f317:=Tryz.func120.trans (congrArg some (by kernel_rfl))
 f318:=Tryz.func168.trans (congrArg some (by kernel_rfl))
 t0:=Tryz.underlying0
 a0:=Tryz.isAgg0
 z0:=Tryz.sizeOf0
 v0:=Tryz.zeroValue0
 t3:=Tryz.underlying3
 a3:=Tryz.isAgg3
 z3:=Tryz.sizeOf3
 v3:=Tryz.zeroValue3
 t4:=Tryz.underlying4
 a4:=Tryz.isAgg4
 z4:=Tryz.sizeOf4
 v4:=Tryz.zeroValue4
 t5:=Tryz.underlying5
 a5:=Tryz.isAgg5
 z5:=Tryz.sizeOf5
 v5:=Tryz.zeroValue5
 t9:=Tryz.underlying9
 a9:=Tryz.isAgg9
 z9:=Tryz.sizeOf9
 v9:=Tryz.zeroValue9
 t46:=Tryz.underlying197
 a46:=Tryz.isAgg197
 z46:=Tryz.sizeOf197
 v46:=Tryz.zeroValue197
 t53:=Tryz.underlying171
 a53:=Tryz.isAgg171
 z53:=Tryz.sizeOf171
 v53:=Tryz.zeroValue171
 t212:=Tryz.underlying249
 a212:=Tryz.isAgg249
 z212:=Tryz.sizeOf249
 v212:=Tryz.zeroValue249
 g17:=by kernel_rfl
 i0:=by kernel_rfl
 i3:=by kernel_rfl
 i4:=by kernel_rfl
 i5:=by kernel_rfl
 i9:=by kernel_rfl
 i46:=by kernel_rfl
 i53:=by kernel_rfl
 i212:=by kernel_rfl
 m17:=by kernel_rfl }
open Go.Lib in
theorem Tryz.internal_strconv_numDigits (u:Nat) (h1:1≤u) (h2:u < 18446744073709551616) (w:World) (htab:Lib.TabIs Tryz.prog w "internal/strconv.uint64pow10" .u64 Lib.pow10Tab) :
  Calls Tryz.prog 119 #[.int .u64 u] w fun e w'=>e=.returned (.int .i64 (Lib.nDigits u))∧w'=w:=Any.internal_strconv_numDigits Tryz.laysM284 u h1 h2 w htab
def Tryz.lays285_ren:Go.Shelf.Ren:=⟨fun | 285=>167 | n=>n,fun | 37=>84 | 53=>171 | 3=>3 | 4=>4 | 51=>172 | 9=>9 | 5=>5 | 0=>0 | n=>n,fun | n=>n⟩
theorem Tryz.lays285:Go.Proofs.Lays.n285 Tryz.prog Tryz.lays285_ren:={
 mixed:=by kernel_rfl
 f285:=Tryz.func167.trans (congrArg some (by kernel_rfl))
 t0:=Tryz.underlying0
 a0:=Tryz.isAgg0
 z0:=Tryz.sizeOf0
 v0:=Tryz.zeroValue0
 t3:=Tryz.underlying3
 a3:=Tryz.isAgg3
 z3:=Tryz.sizeOf3
 v3:=Tryz.zeroValue3
 t4:=Tryz.underlying4
 a4:=Tryz.isAgg4
 z4:=Tryz.sizeOf4
 v4:=Tryz.zeroValue4
 t5:=Tryz.underlying5
 a5:=Tryz.isAgg5
 z5:=Tryz.sizeOf5
 v5:=Tryz.zeroValue5
 t9:=Tryz.underlying9
 a9:=Tryz.isAgg9
 z9:=Tryz.sizeOf9
 v9:=Tryz.zeroValue9
 t37:=Tryz.underlying84
 a37:=Tryz.isAgg84
 z37:=Tryz.sizeOf84
 v37:=Tryz.zeroValue84
 t51:=Tryz.underlying172
 a51:=Tryz.isAgg172
 z51:=Tryz.sizeOf172
 v51:=Tryz.zeroValue172
 t53:=Tryz.underlying171
 a53:=Tryz.isAgg171
 z53:=Tryz.sizeOf171
 v53:=Tryz.zeroValue171 }
open Go.RowKit Go.Sort Go.Lib in
theorem Tryz.internal_strconv_formatBase10 (blk off cap:Nat) (u:Nat) (d:Array UInt8) (w:World) (hH:Holds (fun (b:UInt8)=>Value.int .u8 (b.toNat:Int)) w blk off d) (hu:u < 10 ^ d.size) (hu64:u < 18446744073709551616) (hsz:d.size < 4611686018427387904) :
  Calls Tryz.prog 167 #[.slice (some ⟨blk,off,none⟩) d.size cap,.int .u64 u] w fun e w' =>
   e=.returned (.tuple #[])∧∃ (n v':Nat) (dk:Array UInt8),w'=(putRow (fun (b:UInt8)=>Value.int .u8 (b.toNat:Int)) w blk off dk).drewN n∧FmtInv d.size u 0 v' dk:=Any.internal_strconv_formatBase10 Tryz.lays285 blk off cap u d w hH hu hu64 hsz
def Tryz.laysM171_ren:Go.Shelf.Ren:=⟨fun | 171=>110 | 243=>155 | 246=>203 | 283=>204 | 284=>119 | 285=>167 | 286=>205 | 129=>116 | 317=>120 | 318=>168 | 319=>227 | 320=>228 | 337=>237 | 338=>238 | n=>n,fun | 3=>3 | 9=>9 | 2=>2 | 4=>4 | 171=>185 | 0=>0 | 53=>171 | 37=>84 | 5=>5 | 173=>278 | 212=>249 | 51=>172 | 20=>20 | 213=>305 | 46=>197 | 232=>178 | 233=>317 | n=>n,fun | 17=>12 | 18=>24 | 19=>25 | n=>n⟩
theorem Tryz.laysM171:Go.Proofs.LaysM.n171 Tryz.prog Tryz.laysM171_ren:={
 mixed:=by kernel_rfl
 f129:=Tryz.func116.trans (congrArg some (by kernel_rfl))
 f171:=Tryz.func110.trans (congrArg some (by kernel_rfl))
 f243:=Tryz.func155.trans (congrArg some (by kernel_rfl))
 f246:=Tryz.func203.trans (congrArg some (by kernel_rfl))
 f283:=Tryz.func204.trans (congrArg some (by kernel_rfl))
 f284:=Tryz.func119.trans (congrArg some (by kernel_rfl))
 f285:=Tryz.func167.trans (congrArg some (by kernel_rfl))
 f286:=Tryz.func205.trans (congrArg some (by kernel_rfl))
 f317:=Tryz.func120.trans (congrArg some (by kernel_rfl))
 f318:=Tryz.func168.trans (congrArg some (by kernel_rfl))
 f319:=Tryz.func227.trans (congrArg some (by kernel_rfl))
 f320:=Tryz.func228.trans (congrArg some (by kernel_rfl))
 f337:=Tryz.func237.trans (congrArg some (by kernel_rfl))
 f338:=Tryz.func238.trans (congrArg some (by kernel_rfl))
 t0:=Tryz.underlying0
 a0:=Tryz.isAgg0
 z0:=Tryz.sizeOf0
 v0:=Tryz.zeroValue0
 t2:=Tryz.underlying2
 a2:=Tryz.isAgg2
 z2:=Tryz.sizeOf2
 v2:=Tryz.zeroValue2
 t3:=Tryz.underlying3
 a3:=Tryz.isAgg3
 z3:=Tryz.sizeOf3
 v3:=Tryz.zeroValue3
 t4:=Tryz.underlying4
 a4:=Tryz.isAgg4
 z4:=Tryz.sizeOf4
 v4:=Tryz.zeroValue4
 t5:=Tryz.underlying5
 a5:=Tryz.isAgg5
 z5:=Tryz.sizeOf5
 v5:=Tryz.zeroValue5
 t9:=Tryz.underlying9
 a9:=Tryz.isAgg9
 z9:=Tryz.sizeOf9
 v9:=Tryz.zeroValue9
 t20:=Tryz.underlying20
 a20:=Tryz.isAgg20
 z20:=Tryz.sizeOf20
 v20:=Tryz.zeroValue20
 t37:=Tryz.underlying84
 a37:=Tryz.isAgg84
 z37:=Tryz.sizeOf84
 v37:=Tryz.zeroValue84
 t46:=Tryz.underlying197
 a46:=Tryz.isAgg197
 z46:=Tryz.sizeOf197
 v46:=Tryz.zeroValue197
 t51:=Tryz.underlying172
 a51:=Tryz.isAgg172
 z51:=Tryz.sizeOf172
 v51:=Tryz.zeroValue172
 t53:=Tryz.underlying171
 a53:=Tryz.isAgg171
 z53:=Tryz.sizeOf171
 v53:=Tryz.zeroValue171
 t171:=Tryz.underlying185
 a171:=Tryz.isAgg185
 z171:=Tryz.sizeOf185
 v171:=Tryz.zeroValue185
 t173:=Tryz.underlying278
 a173:=Tryz.isAgg278
 z173:=Tryz.sizeOf278
 v173:=Tryz.zeroValue278
 t212:=Tryz.underlying249
 a212:=Tryz.isAgg249
 z212:=Tryz.sizeOf249
 v212:=Tryz.zeroValue249
 t213:=Tryz.underlying305
 a213:=Tryz.isAgg305
 z213:=Tryz.sizeOf305
 t232:=Tryz.underlying178
 a232:=Tryz.isAgg178
 z232:=Tryz.sizeOf178
 v232:=Tryz.zeroValue178
 t233:=Tryz.underlying317
 a233:=Tryz.isAgg317
 z233:=Tryz.sizeOf317
 v233:=Tryz.zeroValue317
 g17:=by kernel_rfl
 g18:=by kernel_rfl
 g19:=by kernel_rfl
 i0:=by kernel_rfl
 i2:=by kernel_rfl
 i3:=by kernel_rfl
 i4:=by kernel_rfl
 i5:=by kernel_rfl
 i9:=by kernel_rfl
 i20:=by kernel_rfl
 i37:=by kernel_rfl
 i46:=by kernel_rfl
 i51:=by kernel_rfl
 i53:=by kernel_rfl
 i171:=by kernel_rfl
 i173:=by kernel_rfl
 i212:=by kernel_rfl
 i232:=by kernel_rfl
 i233:=by kernel_rfl
 m17:=by kernel_rfl
 m18:=by kernel_rfl
 m19:=by kernel_rfl }
open Go.RowKit Go.Sort Go.Lib in
theorem Tryz.strconv_Itoa (n:Int) (h0:-9223372036854775808≤n) (h1:n≤9223372036854775807) (w:World) (htab:Lib.TabIs Tryz.prog w "internal/strconv.uint64pow10" .u64 Lib.pow10Tab) :
  Calls Tryz.prog 110 #[.int .i64 n] w fun e w'=>e=.returned (.string ⟨(Lib.itoa n).toArray⟩)∧∃ k os,w'=grow (w.drewN k) os:=Any.strconv_Itoa Tryz.laysM171 n h0 h1 w htab
def Tryz.laysC172_ren:Go.Shelf.Ren:=⟨fun | 172=>77 | 244=>92 | 245=>73 | 247=>126 | 279=>86 | 280=>87 | 281=>88 | 282=>89 | 287=>177 | 316=>108 | 171=>110 | 205=>109 | 321=>158 | 322=>199 | 243=>155 | 246=>203 | 283=>204 | 284=>119 | 285=>167 | 286=>205 | 129=>116 | 317=>120 | 318=>168 | 319=>227 | 320=>228 | 337=>237 | 338=>238 | n=>n,fun | 9=>9 | 3=>3 | 75=>92 | 76=>118 | 4=>4 | 5=>5 | 167=>133 | 37=>84 | 0=>0 | 85=>193 | 2=>2 | 168=>134 | 53=>171 | 175=>254 | 46=>197 | 210=>168 | 127=>232 | 145=>235 | 143=>233 | 21=>21 | 171=>185 | 173=>278 | 212=>249 | 51=>172 | 20=>20 | 213=>305 | 232=>178 | 233=>317 | 80=>54 | n=>n,fun | 15=>2 | 16=>3 | 17=>12 | 18=>24 | 19=>25 | n=>n⟩
theorem Tryz.laysC172:Go.Proofs.LaysC.n172 Tryz.prog Tryz.laysC172_ren:={
 mixed:=by kernel_rfl
 f129:=Tryz.func116.trans (congrArg some (by kernel_rfl))
 f171:=Tryz.func110.trans (congrArg some (by kernel_rfl))
 f172:=Tryz.func77.trans (congrArg some (by kernel_rfl))
 f205:=Tryz.func109.trans (congrArg some (by kernel_rfl))
 f243:=Tryz.func155.trans (congrArg some (by kernel_rfl))
 f244:=Tryz.func92.trans (congrArg some (by kernel_rfl))
 f245:=Tryz.func73.trans (congrArg some (by kernel_rfl))
 f246:=Tryz.func203.trans (congrArg some (by kernel_rfl))
 f247:=Tryz.func126.trans (congrArg some (by kernel_rfl))
 f279:=Tryz.func86.trans (congrArg some (by kernel_rfl))
 f280:=Tryz.func87.trans (congrArg some (by kernel_rfl))
 f281:=Tryz.func88.trans (congrArg some (by kernel_rfl))
 f282:=Tryz.func89.trans (congrArg some (by kernel_rfl))
 f283:=Tryz.func204.trans (congrArg some (by kernel_rfl))
 f284:=Tryz.func119.trans (congrArg some (by kernel_rfl))
 f285:=Tryz.func167.trans (congrArg some (by kernel_rfl))
 f286:=Tryz.func205.trans (congrArg some (by kernel_rfl))
 f287:=Tryz.func177.trans (congrArg some (by kernel_rfl))
 f316:=Tryz.func108.trans (congrArg some (by kernel_rfl))
 f317:=Tryz.func120.trans (congrArg some (by kernel_rfl))
 f318:=Tryz.func168.trans (congrArg some (by kernel_rfl))
 f319:=Tryz.func227.trans (congrArg some (by kernel_rfl))
 f320:=Tryz.func228.trans (congrArg some (by kernel_rfl))
 f321:=Tryz.func158.trans (congrArg some (by kernel_rfl))
 f322:=Tryz.func199.trans (congrArg some (by kernel_rfl))
 f337:=Tryz.func237.trans (congrArg some (by kernel_rfl))
 f338:=Tryz.func238.trans (congrArg some (by kernel_rfl))
 t0:=Tryz.underlying0
 a0:=Tryz.isAgg0
 z0:=Tryz.sizeOf0
 v0:=Tryz.zeroValue0
 t2:=Tryz.underlying2
 a2:=Tryz.isAgg2
 z2:=Tryz.sizeOf2
 v2:=Tryz.zeroValue2
 t3:=Tryz.underlying3
 a3:=Tryz.isAgg3
 z3:=Tryz.sizeOf3
 v3:=Tryz.zeroValue3
 t4:=Tryz.underlying4
 a4:=Tryz.isAgg4
 z4:=Tryz.sizeOf4
 v4:=Tryz.zeroValue4
 t5:=Tryz.underlying5
 a5:=Tryz.isAgg5
 z5:=Tryz.sizeOf5
 v5:=Tryz.zeroValue5
 t9:=Tryz.underlying9
 a9:=Tryz.isAgg9
 z9:=Tryz.sizeOf9
 v9:=Tryz.zeroValue9
 t20:=Tryz.underlying20
 a20:=Tryz.isAgg20
 z20:=Tryz.sizeOf20
 v20:=Tryz.zeroValue20
 t21:=Tryz.underlying21
 a21:=Tryz.isAgg21
 z21:=Tryz.sizeOf21
 v21:=Tryz.zeroValue21
 t37:=Tryz.underlying84
 a37:=Tryz.isAgg84
 z37:=Tryz.sizeOf84
 v37:=Tryz.zeroValue84
 t46:=Tryz.underlying197
 a46:=Tryz.isAgg197
 z46:=Tryz.sizeOf197
 v46:=Tryz.zeroValue197
 t51:=Tryz.underlying172
 a51:=Tryz.isAgg172
 z51:=Tryz.sizeOf172
 v51:=Tryz.zeroValue172
 t53:=Tryz.underlying171
 a53:=Tryz.isAgg171
 z53:=Tryz.sizeOf171
 v53:=Tryz.zeroValue171
 t75:=Tryz.underlying92
 a75:=Tryz.isAgg92
 z75:=Tryz.sizeOf92
 v75:=Tryz.zeroValue92
 t76:=Tryz.underlying118
 a76:=Tryz.isAgg118
 z76:=Tryz.sizeOf118
 v76:=Tryz.zeroValue118
 t85:=Tryz.underlying193
 a85:=Tryz.isAgg193
 z85:=Tryz.sizeOf193
 v85:=Tryz.zeroValue193
 t127:=Tryz.underlying232
 a127:=Tryz.isAgg232
 z127:=Tryz.sizeOf232
 v127:=Tryz.zeroValue232
 t143:=Tryz.underlying233
 a143:=Tryz.isAgg233
 z143:=Tryz.sizeOf233
 v143:=Tryz.zeroValue233
 t145:=Tryz.underlying235
 a145:=Tryz.isAgg235
 z145:=Tryz.sizeOf235
 v145:=Tryz.zeroValue235
 t167:=Tryz.underlying133
 a167:=Tryz.isAgg133
 z167:=Tryz.sizeOf133
 v167:=Tryz.zeroValue133
 t168:=Tryz.underlying134
 a168:=Tryz.isAgg134
 z168:=Tryz.sizeOf134
 v168:=Tryz.zeroValue134
 t171:=Tryz.underlying185
 a171:=Tryz.isAgg185
 z171:=Tryz.sizeOf185
 v171:=Tryz.zeroValue185
 t173:=Tryz.underlying278
 a173:=Tryz.isAgg278
 z173:=Tryz.sizeOf278
 v173:=Tryz.zeroValue278
 t175:=Tryz.underlying254
 a175:=Tryz.isAgg254
 z175:=Tryz.sizeOf254
 v175:=Tryz.zeroValue254
 t210:=Tryz.underlying168
 a210:=Tryz.isAgg168
 z210:=Tryz.sizeOf168
 v210:=Tryz.zeroValue168
 t212:=Tryz.underlying249
 a212:=Tryz.isAgg249
 z212:=Tryz.sizeOf249
 v212:=Tryz.zeroValue249
 t213:=Tryz.underlying305
 a213:=Tryz.isAgg305
 z213:=Tryz.sizeOf305
 t232:=Tryz.underlying178
 a232:=Tryz.isAgg178
 z232:=Tryz.sizeOf178
 v232:=Tryz.zeroValue178
 t233:=Tryz.underlying317
 a233:=Tryz.isAgg317
 z233:=Tryz.sizeOf317
 v233:=Tryz.zeroValue317
 g15:=by kernel_rfl
 g16:=by kernel_rfl
 g17:=by kernel_rfl
 g18:=by kernel_rfl
 g19:=by kernel_rfl
 t80:=Tryz.underlying54
 a80:=Tryz.isAgg54
 z80:=Tryz.sizeOf54
 v80:=Tryz.zeroValue54
 i0:=by kernel_rfl
 i2:=by kernel_rfl
 i3:=by kernel_rfl
 i4:=by kernel_rfl
 i5:=by kernel_rfl
 i9:=by kernel_rfl
 i20:=by kernel_rfl
 i21:=by kernel_rfl
 i37:=by kernel_rfl
 i46:=by kernel_rfl
 i51:=by kernel_rfl
 i53:=by kernel_rfl
 i75:=by kernel_rfl
 i76:=by kernel_rfl
 i80:=by kernel_rfl
 i85:=by kernel_rfl
 i127:=by kernel_rfl
 i143:=by kernel_rfl
 i145:=by kernel_rfl
 i167:=by kernel_rfl
 i168:=by kernel_rfl
 i171:=by kernel_rfl
 i173:=by kernel_rfl
 i175:=by kernel_rfl
 i210:=by kernel_rfl
 i212:=by kernel_rfl
 i232:=by kernel_rfl
 i233:=by kernel_rfl
 m15:=by kernel_rfl
 m16:=by kernel_rfl
 m17:=by kernel_rfl
 m18:=by kernel_rfl
 m19:=by kernel_rfl
 c0:=by kernel_rfl
 c2:=by kernel_rfl
 c3:=by kernel_rfl
 c4:=by kernel_rfl
 c5:=by kernel_rfl
 c9:=by kernel_rfl
 c20:=by kernel_rfl
 c21:=by kernel_rfl
 c37:=by kernel_rfl
 c46:=by kernel_rfl
 c51:=by kernel_rfl
 c53:=by kernel_rfl
 c75:=by kernel_rfl
 c76:=by kernel_rfl
 c80:=by kernel_rfl
 c85:=by kernel_rfl
 c127:=by kernel_rfl
 c143:=by kernel_rfl
 c145:=by kernel_rfl
 c167:=by kernel_rfl
 c168:=by kernel_rfl
 c171:=by kernel_rfl
 c173:=by kernel_rfl
 c175:=by kernel_rfl
 c210:=by kernel_rfl
 c212:=by kernel_rfl
 c213:=by kernel_rfl
 c232:=by kernel_rfl
 c233:=by kernel_rfl }
open Go.RowKit in
theorem Tryz.strconv_Atoi_ok (s:ByteArray) (hmax:s.size≤9223372036854775806) (v:Int) (h:Lib.atoiAll s.data.toList=.ok v) (w:World) :
  Calls Tryz.prog 77 #[.string s] w fun e w'=>e=.returned (.tuple #[.int .i64 v,.nilIface])∧(w'=w∨∃ t,w'=Lib.bytesWorld w 5 t):=Any.strconv_Atoi_ok Tryz.laysC172 s hmax v h w
open Go.RowKit in
theorem Tryz.strconv_Atoi_syntax (s:ByteArray) (hlim:s.size≤281474976710656) (h:Lib.atoiAll s.data.toList=Lib.atoiAll []) (ev:Value) (w:World) (hv:w.cell? ⟨2,0,none⟩=some ev) (hev:ev=.nilIface∨∃ te pe,ev=.iface te pe) :
  Calls Tryz.prog 77 #[.string s] w fun e w'=>∃ N,e=.returned (.tuple #[.int .i64 (0),.iface 134 (.pointer (some ⟨N,0,none⟩))])∧w.heap.size≤N∧w'.heap[N]?=some (.cells #[.string ⟨#[65,116,111,105]⟩,.string s,ev] 168 (0,0))∧Below w.heap.size w w':=Any.strconv_Atoi_syntax Tryz.laysC172 s hlim h ev w hv hev
open Go.RowKit in
theorem Tryz.strconv_Atoi_range (s:ByteArray) (hlim:s.size≤281474976710656) (h:Lib.atoiAll s.data.toList=.range) (ev:Value) (w:World) (hv:w.cell? ⟨3,0,none⟩=some ev) (hev:ev=.nilIface∨∃ te pe,ev=.iface te pe) :
  Calls Tryz.prog 77 #[.string s] w fun e w'=>∃ N,e=.returned (.tuple #[.int .i64 (Lib.atoiSat s.data.toList),.iface 134 (.pointer (some ⟨N,0,none⟩))])∧w.heap.size≤N∧w'.heap[N]?=some (.cells #[.string ⟨#[65,116,111,105]⟩,.string s,ev] 168 (0,0))∧Below w.heap.size w w':=Any.strconv_Atoi_range Tryz.laysC172 s hlim h ev w hv hev
def Tryz.lays192_ren:Go.Shelf.Ren:=⟨fun | 192=>78 | 190=>93 | 125=>128 | 258=>127 | 128=>187 | 129=>116 | 302=>178 | 303=>179 | 304=>180 | 305=>181 | 306=>182 | 307=>183 | 308=>184 | 309=>185 | 310=>186 | 333=>209 | 329=>210 | 330=>211 | 334=>212 | 335=>213 | 336=>214 | 344=>229 | n=>n,fun | 31=>23 | 0=>0 | 9=>9 | 3=>3 | 46=>197 | 51=>172 | 53=>171 | 4=>4 | 183=>258 | 182=>257 | 131=>262 | 5=>5 | 218=>290 | 222=>46 | 228=>307 | 229=>182 | n=>n,fun | n=>n⟩
theorem Tryz.lays192:Go.Proofs.Lays.n192 Tryz.prog Tryz.lays192_ren:={
 mixed:=by kernel_rfl
 f125:=Tryz.func128.trans (congrArg some (by kernel_rfl))
 f128:=Tryz.func187.trans (congrArg some (by kernel_rfl))
 f129:=Tryz.func116.trans (congrArg some (by kernel_rfl))
 f190:=Tryz.func93.trans (congrArg some (by kernel_rfl))
 f192:=Tryz.func78.trans (congrArg some (by kernel_rfl))
 f258:=Tryz.func127.trans (congrArg some (by kernel_rfl))
 f302:=Tryz.func178.trans (congrArg some (by kernel_rfl))
 f303:=Tryz.func179.trans (congrArg some (by kernel_rfl))
 f304:=Tryz.func180.trans (congrArg some (by kernel_rfl))
 f305:=Tryz.func181.trans (congrArg some (by kernel_rfl))
 f306:=Tryz.func182.trans (congrArg some (by kernel_rfl))
 f307:=Tryz.func183.trans (congrArg some (by kernel_rfl))
 f308:=Tryz.func184.trans (congrArg some (by kernel_rfl))
 f309:=Tryz.func185.trans (congrArg some (by kernel_rfl))
 f310:=Tryz.func186.trans (congrArg some (by kernel_rfl))
 f329:=Tryz.func210.trans (congrArg some (by kernel_rfl))
 f330:=Tryz.func211.trans (congrArg some (by kernel_rfl))
 f333:=Tryz.func209.trans (congrArg some (by kernel_rfl))
 f334:=Tryz.func212.trans (congrArg some (by kernel_rfl))
 f335:=Tryz.func213.trans (congrArg some (by kernel_rfl))
 f336:=Tryz.func214.trans (congrArg some (by kernel_rfl))
 f344:=Tryz.func229.trans (congrArg some (by kernel_rfl))
 t0:=Tryz.underlying0
 a0:=Tryz.isAgg0
 z0:=Tryz.sizeOf0
 v0:=Tryz.zeroValue0
 t3:=Tryz.underlying3
 a3:=Tryz.isAgg3
 z3:=Tryz.sizeOf3
 v3:=Tryz.zeroValue3
 t4:=Tryz.underlying4
 a4:=Tryz.isAgg4
 z4:=Tryz.sizeOf4
 v4:=Tryz.zeroValue4
 t5:=Tryz.underlying5
 a5:=Tryz.isAgg5
 z5:=Tryz.sizeOf5
 v5:=Tryz.zeroValue5
 t9:=Tryz.underlying9
 a9:=Tryz.isAgg9
 z9:=Tryz.sizeOf9
 v9:=Tryz.zeroValue9
 t31:=Tryz.underlying23
 a31:=Tryz.isAgg23
 z31:=Tryz.sizeOf23
 v31:=Tryz.zeroValue23
 t46:=Tryz.underlying197
 a46:=Tryz.isAgg197
 z46:=Tryz.sizeOf197
 v46:=Tryz.zeroValue197
 t51:=Tryz.underlying172
 a51:=Tryz.isAgg172
 z51:=Tryz.sizeOf172
 v51:=Tryz.zeroValue172
 t53:=Tryz.underlying171
 a53:=Tryz.isAgg171
 z53:=Tryz.sizeOf171
 v53:=Tryz.zeroValue171
 t131:=Tryz.underlying262
 a131:=Tryz.isAgg262
 z131:=Tryz.sizeOf262
 v131:=Tryz.zeroValue262
 t182:=Tryz.underlying257
 a182:=Tryz.isAgg257
 z182:=Tryz.sizeOf257
 v182:=Tryz.zeroValue257
 t183:=Tryz.underlying258
 a183:=Tryz.isAgg258
 z183:=Tryz.sizeOf258
 v183:=Tryz.zeroValue258
 t218:=Tryz.underlying290
 a218:=Tryz.isAgg290
 z218:=Tryz.sizeOf290
 v218:=Tryz.zeroValue290
 t222:=Tryz.underlying46
 a222:=Tryz.isAgg46
 z222:=Tryz.sizeOf46
 v222:=Tryz.zeroValue46
 t228:=Tryz.underlying307
 a228:=Tryz.isAgg307
 z228:=Tryz.sizeOf307
 v228:=Tryz.zeroValue307
 t229:=Tryz.underlying182
 a229:=Tryz.isAgg182
 z229:=Tryz.sizeOf182
 v229:=Tryz.zeroValue182 }
open Go.Sort Go.RowKit in
theorem Tryz.sort_Strings (blk off cap:Nat) (ss:List (List UInt8)) (w:World) (hH:Holds encStr w blk off ss.toArray) (hblk:blk < w.heap.size) (hsz:ss.length < 4611686018427387904) :
  Calls Tryz.prog 78 #[.slice (some ⟨blk,off,none⟩) ss.length cap] w fun e w' =>
   e=.returned (.tuple #[])∧∃ n os,w'=grow (putRow encStr (Sort.ahead w n) blk off (ss.mergeSort fun x y=>decide (x≤y)).toArray) os:=Any.sort_Strings Tryz.lays192 blk off cap ss w hH hblk hsz
def Tryz.lays264_ren:Go.Shelf.Ren:=⟨fun | 264=>206 | n=>n,fun | 53=>171 | 46=>197 | n=>n,fun | n=>n⟩
theorem Tryz.lays264:Go.Proofs.Lays.n264 Tryz.prog Tryz.lays264_ren:={
 mixed:=by kernel_rfl
 f264:=Tryz.func206.trans (congrArg some (by kernel_rfl))
 t46:=Tryz.underlying197
 a46:=Tryz.isAgg197
 z46:=Tryz.sizeOf197
 v46:=Tryz.zeroValue197
 t53:=Tryz.underlying171
 a53:=Tryz.isAgg171
 z53:=Tryz.sizeOf171
 v53:=Tryz.zeroValue171 }
open Go.RowKit Go.Lib in
theorem Tryz.bits_Mul64 (x y:Nat) (hx:x < 18446744073709551616) (hy:y < 18446744073709551616) (w:World) :
  Calls Tryz.prog 206 #[.int .u64 x,.int .u64 y] w fun e w'=>e=.returned (.tuple #[.int .u64 ((x * y / 18446744073709551616:Nat):Int),.int .u64 ((x * y % 18446744073709551616:Nat):Int)])∧w'=w:=Any.bits_Mul64 Tryz.lays264 x y hx hy w
open Go.RowKit Go.Sort in
theorem Tryz.sort_Strings_none (p:Option Addr) (cap:Nat) (w:World) :
  Calls Tryz.prog 78 #[.slice p 0 cap] w fun e w'=>e=.returned (.tuple #[])∧w'=w:=Any.sort_Strings_none Tryz.lays192 p cap w
def Tryz.laysPah39_ren:Go.Shelf.Ren:=⟨fun | 39=>281 | 41=>282 | 40=>283 | n=>n,fun | 30=>84 | 9=>9 | 3=>3 | 0=>0 | 5=>5 | 46=>197 | n=>n,fun | n=>n⟩
theorem Tryz.laysPah39:Go.Proofs.Lays.ph39 Tryz.prog Tryz.laysPah39_ren:={
 mixed:=by kernel_rfl
 f39:=Tryz.func281.trans (congrArg some (by kernel_rfl))
 f40:=Tryz.func283.trans (congrArg some (by kernel_rfl))
 f41:=Tryz.func282.trans (congrArg some (by kernel_rfl))
 t0:=Tryz.underlying0
 a0:=Tryz.isAgg0
 z0:=Tryz.sizeOf0
 v0:=Tryz.zeroValue0
 t3:=Tryz.underlying3
 a3:=Tryz.isAgg3
 z3:=Tryz.sizeOf3
 v3:=Tryz.zeroValue3
 t5:=Tryz.underlying5
 a5:=Tryz.isAgg5
 z5:=Tryz.sizeOf5
 v5:=Tryz.zeroValue5
 t9:=Tryz.underlying9
 a9:=Tryz.isAgg9
 z9:=Tryz.sizeOf9
 v9:=Tryz.zeroValue9
 t30:=Tryz.underlying84
 a30:=Tryz.isAgg84
 z30:=Tryz.sizeOf84
 v30:=Tryz.zeroValue84
 t46:=Tryz.underlying197
 a46:=Tryz.isAgg197
 z46:=Tryz.sizeOf197
 v46:=Tryz.zeroValue197
 info5:=by kernel_rfl }
open Go.RowKit Go.Lib in
theorem Tryz.hex_EncodeToString_bytes (bs os cs:Nat) (l:List UInt8) (w:World) (hsrc:∀ i (h:i < l.length),w.cell? ⟨bs,os + i,none⟩=some (.int .u8 ((l[i]'h).toNat:Int))) (hb:bs < w.heap.size) (hbig:2 * l.length≤281474976710656) :
  Calls Tryz.prog 281 #[.slice (some ⟨bs,os,none⟩) l.length cs] w fun e w'=>e=.returned (.string ⟨(Hx.encode l).toArray⟩)∧Below w.heap.size w w':=Any.hex_EncodeToString_bytes Tryz.laysPah39 bs os cs l w hsrc hb hbig
end Go.Proofs
namespace Go.Proofs.YtfkecmlmnhbmoaaGreatDoor
def rfF:By→Nat→Nat→Int→Bool→Nat × Nat × Int × Bool
 | [],M,nd,dp,tr=>(M,nd,dp,tr)
 | c::l,M,nd,dp,tr =>
  if c.toNat=46 then rfF l M nd nd tr
  else if c.toNat=48∧nd=0 then rfF l M nd (dp - 1) tr
  else if nd < 19 then rfF l (M * 10 + (c.toNat - 48)) (nd + 1) dp tr
  else rfF l M (nd + 1) dp (if c.toNat=48 then tr else true)
def stF:By→Nat→Int→Nat × Int
 | [],N,dp=>(N,dp)
 | c::l,N,dp =>
  if c.toNat=46 then stF l N (numD N)
  else if c.toNat=48∧N=0 then stF l N (dp - 1)
  else stF l (10 * N + (c.toNat - 48)) dp
theorem numD_dig {N d:Nat} (hd:d≤9) (h:¬(d=0∧N=0)):numD (10 * N + d)=numD N + 1:=by
 rw [numD_pos (by omega),show (10 * N + d) / 10=N by omega]
theorem scan_cons {c:UInt8} {l:By} {d p a:Int} {r:Int × Int × Int} (h:numScan (c::l) d p a=some r) :
  (48≤c.toNat∧c.toNat≤57∧numScan l (d + 1) p (if p == 0 then a + 1 else a)=some r)∨(c.toNat=46∧numScan l d (p + 1) a=some r):=by
 simp only [numScan] at h
 split at h
 ·rename_i hd
  left
  simp [isDig] at hd
  exact ⟨by omega,by omega,h⟩
 ·split at h
  ·rename_i h46
   right
   simp at h46
   exact ⟨by omega,h⟩
  ·cases h
theorem scan_mono:∀ (l:By) (d p a D P A:Int),numScan l d p a=some (D,P,A)→d≤D∧p≤P∧a≤A∧D - d + (P - p)=l.length:=by
 intro l
 induction l with
 | nil=>intro d p a D P A h;simp [numScan] at h;simp;omega
 | cons c l ih =>
  intro d p a D P A h
  simp only [List.length_cons]
  rcases scan_cons h with ⟨_,_,h⟩ | ⟨_,h⟩
  ·have:=ih _ _ _ _ _ _ h
   split at this<;>omega
  ·have:=ih _ _ _ _ _ _ h
   omega
theorem rf_st:∀ (l:By) (M N nd:Nat) (dp:Int) (tr:Bool) (d p a:Int) (r:Int × Int × Int),numScan l d p a=some r→numD N=nd→(rfF l M nd dp tr).2.1=numD (stF l N dp).1∧(rfF l M nd dp tr).2.2.1=(stF l N dp).2:=by
 intro l
 induction l with
 | nil=>intro M N nd dp tr d p a r _ hn;simp [rfF,stF,hn]
 | cons c l ih =>
  intro M N nd dp tr d p a r h hn
  have hN:nd=0↔N=0:=by
   constructor
   ·intro e;by_cases h0:N=0
    ·exact h0
    ·have:=numD_pos1 h0;omega
   ·intro e;rw [←hn,e,numD_zero]
  rcases scan_cons h with ⟨h1,h2,h⟩ | ⟨h1,h⟩
  ·simp only [rfF,stF]
   have h46:¬c.toNat=46:=by omega
   rw [if_neg h46,if_neg h46]
   by_cases hz:c.toNat=48∧nd=0
   ·rw [if_pos hz,if_pos ⟨hz.1,hN.1 hz.2⟩]
    exact ih _ _ _ _ _ _ _ _ _ h hn
   ·have hz2:¬(c.toNat=48∧N=0):=fun x=>hz ⟨x.1,hN.2 x.2⟩
    rw [if_neg hz,if_neg hz2]
    have hd:=numD_dig (N:=N) (d:=c.toNat - 48) (by omega) (fun x=>hz ⟨by omega,hN.2 x.2⟩)
    split
    ·exact ih _ _ _ _ _ _ _ _ _ h (by rw [hd,hn])
    ·exact ih _ _ _ _ _ _ _ _ _ h (by rw [hd,hn])
  ·simp only [rfF,stF]
   rw [if_pos h1,if_pos h1,hn]
   exact ih _ _ _ _ _ _ _ _ _ h hn
structure RfI (M nd:Nat) (dp:Int) (tr:Bool) (d p a:Int):Prop where
 nd_d:nd≤d
 lo:nd - dp≤d
 hi:dp≤a
 m:M < 10 ^ min nd 19
 m0:M=0↔nd=0
 t:tr=true→20≤nd
 a0:0≤a
 pd:p=0→a=d
 p0:0≤p
theorem RfI.start:RfI 0 0 0 false 0 0 0:=⟨by simp,by simp,by simp,by simp,by simp,by simp,by simp,by simp,by simp⟩
theorem RfI.zero {M nd:Nat} {dp:Int} {tr:Bool} {d p a:Int} (h:RfI M nd dp tr d p a) (h0:nd=0):RfI M nd (dp - 1) tr (d + 1) p (if p == 0 then a + 1 else a):=by
 obtain ⟨h1,h2,h3,h4,h5,h6,h7,h8,h9⟩:=h
 refine ⟨by omega,by omega,by split<;>omega,h4,h5,h6,by split<;>omega,?_,h9⟩
 intro e;rw [if_pos (by simp [e])];have:=h8 e;omega
theorem RfI.point {M nd:Nat} {dp:Int} {tr:Bool} {d p a:Int} (h:RfI M nd dp tr d p a) (hp:p=0):RfI M nd nd tr d (p + 1) a:=by
 obtain ⟨h1,h2,h3,h4,h5,h6,h7,h8,h9⟩:=h
 refine ⟨h1,by omega,by have:=h8 hp;omega,h4,h5,h6,h7,by omega,by omega⟩
theorem RfI.dig {M nd:Nat} {dp:Int} {tr:Bool} {d p a:Int} (h:RfI M nd dp tr d p a) {e:Nat} (he:e≤9) (h0:¬(e=0∧nd=0)) (h19:nd < 19):RfI (M * 10 + e) (nd + 1) dp tr (d + 1) p (if p == 0 then a + 1 else a):=by
 obtain ⟨h1,h2,h3,h4,h5,h6,h7,h8,h9⟩:=h
 refine ⟨by omega,by omega,by split<;>omega,?_,by omega,fun x=>by have:=h6 x;omega,by split<;>omega,?_,h9⟩
 ·rw [Nat.min_eq_left (by omega)] at h4
  rw [Nat.min_eq_left (by omega),Nat.pow_succ];omega
 ·intro x;rw [if_pos (by simp [x])];have:=h8 x;omega
theorem RfI.more {M nd:Nat} {dp:Int} {tr tr':Bool} {d p a:Int} (h:RfI M nd dp tr d p a) (h19:¬nd < 19):RfI M (nd + 1) dp tr' (d + 1) p (if p == 0 then a + 1 else a):=by
 obtain ⟨h1,h2,h3,h4,h5,h6,h7,h8,h9⟩:=h
 refine ⟨by omega,by omega,by split<;>omega,?_,by omega,fun x=>by omega,by split<;>omega,?_,h9⟩
 ·rw [Nat.min_eq_right (by omega)] at h4 ⊢;exact h4
 ·intro x;rw [if_pos (by simp [x])];have:=h8 x;omega
theorem rf_end:∀ (l:By) (M nd:Nat) (dp:Int) (tr:Bool) (d p a D A:Int),numScan l d p a=some (D,1,A)→RfI M nd dp tr d p a→RfI (rfF l M nd dp tr).1 (rfF l M nd dp tr).2.1 (rfF l M nd dp tr).2.2.1 (rfF l M nd dp tr).2.2.2 D 1 A:=by
 intro l
 induction l with
 | nil=>intro M nd dp tr d p a D A h hi;simp [numScan] at h;obtain ⟨rfl,rfl,rfl⟩:=h;exact hi
 | cons c l ih =>
  intro M nd dp tr d p a D A h hi
  have hm:=scan_mono _ _ _ _ _ _ _ h
  rcases scan_cons h with ⟨h1,h2,h⟩ | ⟨h1,h⟩
  ·have h46:¬c.toNat=46:=by omega
   simp only [rfF]
   rw [if_neg h46]
   split
   ·rename_i hz;exact ih _ _ _ _ _ _ _ _ _ h (hi.zero hz.2)
   ·rename_i hz
    split
    ·rename_i h19;exact ih _ _ _ _ _ _ _ _ _ h (hi.dig (by omega) (fun x=>hz ⟨by omega,x.2⟩) h19)
    ·rename_i h19;exact ih _ _ _ _ _ _ _ _ _ h (hi.more h19)
  ·simp only [rfF]
   rw [if_pos h1]
   have hm2:=scan_mono _ _ _ _ _ _ _ h
   exact ih _ _ _ _ _ _ _ _ _ h (hi.point (by have:=hi.p0;omega))
end Go.Proofs.YtfkecmlmnhbmoaaGreatDoor
