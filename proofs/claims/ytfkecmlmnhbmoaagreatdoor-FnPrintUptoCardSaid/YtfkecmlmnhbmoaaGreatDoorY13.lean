/- The texts F4 F5 P6 of the workbench, laid together. -/
import Derived.Test.YtfkecmlmnhbmoaaGreatDoorProg
import Derived.WalkKit
import Derived.WalkLawsBesides
import Derived.WalkSpells
import Derived.BigQuiet
import Derived.BigRegion
import Derived.Deep.QuietTactic
import Derived.Deep.RegionHeld3
import Derived.Deep.LoopGhost
import Derived.StillTailTactics
import Derived.Lib.Hide
import Derived.Laws.EntriesVeiled
import Derived.IntWalk
import Derived.Laws.Bits64b
import Derived.Test.YtfkecmlmnhbmoaaGreatDoorY7
import Derived.Test.YtfkecmlmnhbmoaaGreatDoorY9
set_option linter.unusedVariables false
set_option linter.unusedSimpArgs false
namespace Go.Proofs.YtfkecmlmnhbmoaaGreatDoor
open Go Go.RowKit
def dv (l:By):Nat:=l.foldl (fun n c=>10 * n + (c.toNat - 48)) 0
def isDs (l:By):Prop:=∀ c∈l,48≤c.toNat∧c.toNat≤57
theorem dv_snoc (l:By) (c:UInt8):dv (l ++ [c])=10 * dv l + (c.toNat - 48):=by simp [dv]
theorem isDs_snoc {l:By} {c:UInt8} (h:isDs l) (h1:48≤c.toNat) (h2:c.toNat≤57):isDs (l ++ [c]):=by
 intro x hx
 rcases List.mem_append.1 hx with h3 | h3
 ·exact h x h3
 ·simp at h3;subst h3;exact ⟨h1,h2⟩
theorem take_snocD {A:By} {r:Nat} (h:r < A.length):A.take (r + 1)=A.take r ++ [A.getD r 0]:=by
 rw [List.take_succ_eq_append_getElem h];simp [h]
theorem dv_take {A:By} {r:Nat} (h:r < A.length):dv (A.take (r + 1))=10 * dv (A.take r) + ((A.getD r 0).toNat - 48):=by
 rw [take_snocD h,dv_snoc]
theorem isDs_at {A:By} {n r:Nat} (h:isDs (A.take n)) (hr:r < n) (h2:n≤A.length):48≤(A.getD r 0).toNat∧(A.getD r 0).toNat≤57:=by
 have hl:r < A.length:=by omega
 refine h _ ?_
 rw [List.mem_take_iff_getElem]
 exact ⟨r,by omega,by simp [hl]⟩
theorem isDs_take {A:By} {n m:Nat} (h:isDs (A.take n)) (hm:m≤n):isDs (A.take m):=by
 intro x hx
 exact h x (by rw [List.mem_take_iff_getElem] at hx ⊢;obtain ⟨i,hi,e⟩:=hx;exact ⟨i,by omega,e⟩)
theorem dv_lt:∀ (n:Nat) (A:By),n≤A.length→isDs (A.take n)→dv (A.take n) < 10 ^ n:=by
 intro n
 induction n with
 | zero=>intro A _ _;simp [dv]
 | succ n ih =>
  intro A h hd
  have h1:=ih A (by omega) (isDs_take hd (by omega))
  have h2:=isDs_at hd (r:=n) (by omega) h
  rw [dv_take (by omega),Nat.pow_succ]
  omega
def pd (A:By) (nd r:Nat):Nat:=if r≤nd then dv (A.take r) else dv (A.take nd) * 10 ^ (r - nd)
theorem pd_zero (A:By) (nd:Nat):pd A nd 0=0:=by simp [pd,dv]
theorem pd_nd (A:By) (nd:Nat):pd A nd nd=dv (A.take nd):=by simp [pd]
theorem pd_lt {A:By} {nd r:Nat} (h:r < nd) (h2:nd≤A.length):pd A nd (r + 1)=10 * pd A nd r + ((A.getD r 0).toNat - 48):=by
 unfold pd
 rw [if_pos (by omega),if_pos (by omega),dv_take (by omega)]
theorem pd_ge {A:By} {nd r:Nat} (h:nd≤r):pd A nd (r + 1)=10 * pd A nd r:=by
 unfold pd
 rw [if_neg (by omega)]
 by_cases e:r=nd
 ·subst e;simp;omega
 ·rw [if_neg (by omega),show r + 1 - nd=(r - nd) + 1 by omega,Nat.pow_succ,←Nat.mul_assoc];omega
theorem pd_step {A:By} {nd r:Nat} (h2:nd≤A.length) (hd:isDs (A.take nd)):10 * pd A nd r≤pd A nd (r + 1)∧pd A nd (r + 1)≤10 * pd A nd r + 9:=by
 by_cases h:r < nd
 ·rw [pd_lt h h2];have:=isDs_at hd h h2;omega
 ·rw [pd_ge (by omega)];omega
theorem pd_add {A:By} {nd:Nat} (h2:nd≤A.length) (hd:isDs (A.take nd)) (r:Nat):∀ (w:Nat),10 ^ w * pd A nd r≤pd A nd (r + w)∧pd A nd (r + w) < 10 ^ w * (pd A nd r + 1):=by
 intro w
 induction w with
 | zero=>simp
 | succ w ih =>
  have h:=pd_step (r:=r + w) h2 hd
  rw [show r + (w + 1)=r + w + 1 by omega,Nat.pow_succ]
  have e1:10 ^ w * 10 * pd A nd r=10 * (10 ^ w * pd A nd r):=by rw [Nat.mul_comm (10 ^ w) 10,Nat.mul_assoc]
  have e2:10 ^ w * 10 * (pd A nd r + 1)=10 * (10 ^ w * (pd A nd r + 1)):=by rw [Nat.mul_comm (10 ^ w) 10,Nat.mul_assoc]
  rw [e1,e2]
  omega
theorem strip_mul10:∀ (j n:Nat),n≠0→strip (n * 10 ^ j)=strip n∧numD (n * 10 ^ j)=numD n + j:=by
 intro j
 induction j with
 | zero=>intro n _;simp
 | succ j ih =>
  intro n h
  have h1:=ih n h
  have h2:n * 10 ^ (j + 1)=n * 10 ^ j * 10:=by rw [Nat.pow_succ,Nat.mul_assoc]
  have h3:n * 10 ^ j≠0:=Nat.mul_ne_zero h (Nat.pos_iff_ne_zero.1 (pow10_pos j))
  rw [h2]
  refine ⟨?_,?_⟩
  ·rw [strip_step (by omega) (by omega),Nat.mul_div_cancel _ (by decide)];exact h1.1
  ·rw [numD_pos (by omega),Nat.mul_div_cancel _ (by decide),h1.2];omega
theorem rsh_final {A:By} {nd k r0 w Q:Nat} (dp:Int) (h2:nd≤A.length) (hd:isDs (A.take nd)) (hN:numD (dv (A.take nd))=nd) (hN0:dv (A.take nd)≠0) (hr0:1≤r0) (hlo:2 ^ k≤pd A nd r0) (hhi:pd A nd (r0 - 1) < 2 ^ k) (hr:nd≤r0 + w) (hw:1≤w) (hQ:pd A nd (r0 + w)=10 * 2 ^ k * Q) :
  Q≠0∧numD Q=w∧strip Q=rsN k (dv (A.take nd))∧dp - (r0 - 1:Nat)=rsP k (dv (A.take nd)) dp:=by
 have hp2:0 < 2 ^ k:=Nat.pow_pos (by decide)
 have hb:=pd_add h2 hd r0 w
 have hs:=pd_step (r:=r0 - 1) h2 hd
 rw [show r0 - 1 + 1=r0 by omega] at hs
 have hw10:10 ^ w=10 * 10 ^ (w - 1):=by
  conv=>lhs;rw [show w=(w - 1) + 1 by omega,Nat.pow_succ]
  omega
 have hlo2:10 ^ (w - 1)≤Q:=by
  have h1:10 ^ w * 2 ^ k≤10 * 2 ^ k * Q:=by rw [←hQ];exact Nat.le_trans (Nat.mul_le_mul_left _ hlo) hb.1
  rw [hw10,show 10 * 10 ^ (w - 1) * 2 ^ k=10 * 2 ^ k * 10 ^ (w - 1) by rw [Nat.mul_assoc,Nat.mul_comm (10 ^ (w - 1)),←Nat.mul_assoc]] at h1
  exact Nat.le_of_mul_le_mul_left h1 (by omega)
 have hhi2:Q < 10 ^ w:=by
  have h1:10 * 2 ^ k * Q < 10 ^ w * (10 * 2 ^ k):=by
   rw [←hQ];exact Nat.lt_of_lt_of_le hb.2 (Nat.mul_le_mul_left _ (by omega))
  rw [Nat.mul_comm (10 ^ w)] at h1
  exact Nat.lt_of_mul_lt_mul_left h1
 have hQ0:Q≠0:=by have:=pow10_pos (w - 1);omega
 have hQD:numD Q=w:=by
  have:=numD_eq (n:=Q) (m:=w - 1) hlo2 (by rw [show w - 1 + 1=w by omega];exact hhi2)
  omega
 obtain ⟨j,hj⟩:∃ j,r0 + w=nd + j:=⟨r0 + w - nd,by omega⟩
 have hP:pd A nd (nd + j)=dv (A.take nd) * 10 ^ j:=by
  unfold pd
  by_cases e:j=0
  ·subst e;simp
  ·rw [if_neg (by omega),show nd + j - nd=j by omega]
 rw [hj,hP] at hQ
 generalize dv (A.take nd)=N at *
 have e5:N * 5 ^ k * 10 ^ j=Q * 10 ^ (k + 1):=by
  rw [show N * 5 ^ k * 10 ^ j=N * 10 ^ j * 5 ^ k by rw [Nat.mul_assoc,Nat.mul_comm (5 ^ k),←Nat.mul_assoc],hQ]
  rw [show (10:Nat) ^ (k + 1)=10 * (2 ^ k * 5 ^ k) by rw [←Nat.mul_pow,Nat.pow_succ,Nat.mul_comm]]
  rw [Nat.mul_comm Q,Nat.mul_assoc 10 (2 ^ k) Q,Nat.mul_assoc 10,Nat.mul_assoc 10]
  congr 1
  rw [Nat.mul_assoc,Nat.mul_assoc,Nat.mul_comm Q]
 have hN5:N * 5 ^ k≠0:=Nat.mul_ne_zero hN0 (pow5_ne k)
 have s1:=strip_mul10 j _ hN5
 have s2:=strip_mul10 (k + 1) _ hQ0
 rw [e5] at s1
 refine ⟨hQ0,hQD,?_,?_⟩
 ·unfold rsN;rw [←s1.1,←s2.1]
 ·unfold rsP;omega
theorem trimN_dv:∀ (n:Nat) (A:By),n≤A.length→isDs (A.take n)→dv (A.take n)≠0→numD (dv (A.take n))=n→trimN A n=numD (strip (dv (A.take n)))∧dv (A.take (trimN A n))=strip (dv (A.take n)):=by
 intro n
 induction n with
 | zero=>intro A _ _ h;simp [dv] at h
 | succ n ih =>
  intro A hl hd h0 hn
  have h1:=isDs_at hd (r:=n) (by omega) hl
  have h2:=dv_take (A:=A) (r:=n) (by omega)
  simp only [trimN]
  by_cases h48:(A.getD n 0).toNat=48
  ·rw [if_pos h48]
   have h3:dv (A.take (n + 1))=dv (A.take n) * 10:=by omega
   have h4:dv (A.take n)≠0:=by omega
   have h5:=strip_mul10 1 _ h4
   simp only [Nat.pow_one] at h5
   rw [h3] at hn ⊢
   rw [h5.1]
   exact ih A (by omega) (isDs_take hd (by omega)) h4 (by omega)
  ·rw [if_neg h48,strip_stop (by omega)]
   exact ⟨hn.symm,rfl⟩
def DecN (w:World) (b:Nat) (N:Nat) (dp:Int) (neg tr:Bool):Prop :=
 numD N≤800∧∃ A,DecAt w b A (numD N) dp neg tr∧isDs (A.take (numD N))∧dv (A.take (numD N))=N
end Go.Proofs.YtfkecmlmnhbmoaaGreatDoor
namespace Go.Proofs.YtfkecmlmnhbmoaaGreatDoor
open Go Go.RowKit
theorem int_pow2 (k:Nat):((2:Int) ^ k)=((2 ^ k:Nat):Int):=by simp
theorem shr_lt {n k:Nat} (h:n < 2 ^ k):(((n:Int) / 2 ^ k) == 0)=true:=by
 rw [int_pow2,←Int.natCast_ediv,Nat.div_eq_of_lt h];rfl
theorem shr_ge {n k:Nat} (h:2 ^ k≤n):(((n:Int) / 2 ^ k) == 0)=false:=by
 have h1:1≤n / 2 ^ k:=(Nat.le_div_iff_mul_le (Nat.pow_pos (by decide))).2 (by omega)
 rw [int_pow2,←Int.natCast_ediv]
 simp only [beq_eq_false_iff_ne,ne_eq]
 omega
theorem and_mask {n M k:Nat} (hM:M=2 ^ k - 1) (hk:k≤60) (hn:n < 18446744073709551616):bits .and .u64 (n:Int) (M:Int)=((n % 2 ^ k:Nat):Int):=by
 have h60:2 ^ k≤1152921504606846976:=Nat.le_trans (Nat.pow_le_pow_right (by decide) hk) (by decide)
 rw [bits_and_u64_nat n M hn (by omega),hM,Nat.and_two_pow_sub_one_eq_mod]
theorem set_at {Ql A:By} {wq:Nat} (h:Ql.length=wq) (hl:wq < A.length) (c:UInt8):(Ql ++ A.drop wq).set wq c=(Ql ++ [c]) ++ A.drop (wq + 1):=by
 rw [List.set_append_right _ _ (by omega),h,Nat.sub_self,List.drop_eq_getElem_cons hl,List.set_cons_zero]
 simp
theorem dig_of {q:Nat} (h:q≤9):(UInt8.ofNat (q + 48)).toNat=q + 48:=by rw [UInt8.toNat_ofNat'];omega
theorem DecAt.put {w:World} {b:Nat} {A Ql:By} {wq nd:Nat} {dp:Int} {neg tr:Bool} (h:DecAt w b (Ql ++ A.drop wq) nd dp neg tr) (hq:Ql.length=wq) (hl:wq < A.length) (hA:A.length=800) {q:Nat} (h9:q≤9) :
  DecAt (w.setCell ⟨b,wq,none⟩ (.int .u8 ((q:Int) + 48))) b ((Ql ++ [UInt8.ofNat (q + 48)]) ++ A.drop (wq + 1)) nd dp neg tr:=by
 have:=h.setDig (i:=wq) (by omega) (UInt8.ofNat (q + 48))
 rw [set_at hq hl,dig_of h9] at this
 simpa using this
theorem dv_dig {Ql:By} {q:Nat} (h9:q≤9):dv (Ql ++ [UInt8.ofNat (q + 48)])=10 * dv Ql + q:=by rw [dv_snoc,dig_of h9];omega
theorem isDs_dig {Ql:By} {q:Nat} (h:isDs Ql) (h9:q≤9):isDs (Ql ++ [UInt8.ofNat (q + 48)]):=isDs_snoc h (by rw [dig_of h9];omega) (by rw [dig_of h9];omega)
theorem div_step {X k D n q m d:Nat} (h:X=10 * 2 ^ k * D + n) (hq:q=n / 2 ^ k) (hm:m=n % 2 ^ k) (hd:d≤9):10 * X + d=10 * 2 ^ k * (10 * D + q) + (m * 10 + d)∧m * 10 + d < 10 * 2 ^ k:=by
 have hp:0 < 2 ^ k:=Nat.pow_pos (by decide)
 have h1:=Nat.div_add_mod n (2 ^ k)
 have h2:=Nat.mod_lt n hp
 rw [←hq,←hm] at h1
 rw [←hm] at h2
 generalize 2 ^ k=p at *
 refine ⟨?_,by omega⟩
 rw [h,←h1,Nat.mul_add,Nat.mul_add (10 * p)]
 have e1:10 * (10 * p * D)=10 * p * (10 * D):=by rw [Nat.mul_left_comm (10 * p),]
 rw [e1,Nat.mul_assoc 10 p q]
 omega
theorem ret_num {k:IntKind} {a b:Int} (h:a=b):Value.int k a=.int k b:=by rw [h]
set_option maxRecDepth 100000 in
set_option maxHeartbeats 40000000 in
theorem rsh_at (w : World) (b : Nat) (A : By) (nd : Nat) (dp : Int) (neg tr : Bool) (k : Nat) (hk1 : 1 ≤ k) (hk2 : k ≤ 60) (hD : DecAt w b A nd dp neg tr) (hds : isDs (A.take nd)) (hnd : nd + k ≤ 799) (hn1 : 1 ≤ nd) (hN0 : dv (A.take nd) ≠ 0) (hN : numD (dv (A.take nd)) = nd) (hdp1 : -100000 ≤ dp) (hdp2 : dp ≤ 100000) :
  Calls Tryz.prog 173 #[.pointer (some ⟨b,0,none⟩),.int .u64 k] w fun e w'=>e=.returned (.tuple #[])∧DecN w' b (rsN k (dv (A.take nd))) (rsP k (dv (A.take nd)) dp) neg tr∧w.grownBy w' (some b):=by
 have hA800:=hD.1
 generalize hR1:rsN k (dv (A.take nd))=R1
 generalize hR2:rsP k (dv (A.take nd)) dp=R2
 have HR1:=Lib.hid hR1;clear hR1
 have HR2:=Lib.hid hR2;clear hR2
 obtain ⟨c0,c1,c2,c3,cf⟩:=hD.cells
 have hlen:nd≤A.length:=by have:=hD.1;omega
 have h60:2 ^ k≤1152921504606846976:=Nat.le_trans (Nat.pow_le_pow_right (by decide) hk2) (by decide)
 have HD:=Lib.hid hD;clear hD
 have Hds:=Lib.hid hds;clear hds
 have HN0:=Lib.hid hN0;clear hN0
 have HN:=Lib.hid hN;clear hN
 have Hlen:=Lib.hid hlen;clear hlen
 have hmask:IntKind.u64.wrap (IntKind.u64.wrap (2 ^ k) - 1)=((2 ^ k - 1:Nat):Int):=by
  have:=Nat.pow_pos (a:=2) (n:=k) (by decide)
  rw [int_pow2]
  generalize 2 ^ k=p at *
  rw [IntWalk.u64_in ((p:Nat):Int) (by omega),IntWalk.u64_in _ (by omega)];omega
 have H60:=Lib.hid h60;clear h60
 obtain ⟨M,hM⟩:∃ M,M=2 ^ k - 1:=⟨_,rfl⟩
 rw [←hM] at hmask
 have HM:=Lib.hid hM;clear hM
 go_enter Tryz.func173,Tryz.ntmps173
 go_wp2_with fail
 go_loopg [4,6] nd (fun g t4 t6 wr=>∃ r n:Nat,t4=.int .i64 r∧t6=.int .u64 n∧g=nd - r∧n=pd A nd r∧r≤nd∧(r=0∨pd A nd (r - 1) < 2 ^ k)∧w=wr)
 case atStart=>exact ⟨0,0,rfl,rfl,rfl,(pd_zero _ _).symm,by omega,.inl rfl,rfl⟩
 case round =>
  obtain ⟨r,n,rfl,rfl,hg,hn,hr,hlow,rfl⟩:=hrel
  have Hg:=Lib.hid hg;clear hg
  have Hn:=Lib.hid hn;clear hn
  have Hlow:=Lib.hid hlow;clear hlow
  by_cases hge:2 ^ k≤n
  ·have hb := shr_ge hge
   obtain ⟨r0,hr0⟩:∃ r0,r0=r:=⟨_,rfl⟩
   have Hlo:=Lib.hid (show 2 ^ k≤pd A nd r0 by rw [hr0,←Hn.out];exact hge)
   have hr1:1≤r0:=by
    have h:=Hlo.out
    by_cases e:r0=0
    ·rw [e,pd_zero] at h;have:=Nat.pow_pos (a:=2) (n:=k) (by decide);omega
    ·omega
   have Hhi:=Lib.hid (show pd A nd (r0 - 1) < 2 ^ k by rcases Hlow.out with e | e;omega;rw [hr0];exact e)
   have hn3:n < 10 * 2 ^ k:=by
    have h:=pd_step (r:=r0 - 1) Hlen.out Hds.out
    rw [show r0 - 1 + 1=r by omega,←Hn.out] at h
    have:=Hhi.out
    omega
   have Hn3:=Lib.hid hn3;clear hn3
   have Hn9:=Lib.hid (show n=pd A nd r0 by rw [hr0];exact Hn.out)
   subst hr0
   clear hge Hn Hlow Hg
   go_wp2_with fail
   have HgN:=Lib.hid (show nd - r0=nd - r0 from rfl)
   go_loopg [4,5,6] (nd - r0) (fun g t4 t5 t6 wr=>∃ (r wq n:Nat) (Ql:By),t4=.int .i64 r∧t5=.int .i64 wq∧t6=.int .u64 n∧g=nd - r∧r=r0 + wq∧(r≤nd∨r=r0)∧Ql.length=wq∧isDs Ql∧pd A nd r=10 * 2 ^ k * dv Ql + n∧n < 10 * 2 ^ k∧DecAt wr b (Ql ++ A.drop wq) nd (dp - (r0 - 1)) neg tr∧w.grownBy wr (some b))
   case atStart=>exact ⟨_,0,_,[],rfl,rfl,rfl,HgN.out,by omega,.inr rfl,rfl,(fun _ h=>by cases h),by rw [←Hn9.out];simp [dv],Hn3.out,HD.out.setDp _,gr_set (World.grownBy.refl _ _) _ _⟩
   case round =>
    clear c0 c1 c2 c3 cf hb
    obtain ⟨r,wq,n,Ql,rfl,rfl,rfl,hg,hrw,hrr,hQl,hQd,hpd,hnn,hD2,hG⟩:=hrel
    obtain ⟨c0,c1,c2,c3,cf⟩:=hD2.cells
    have HG:=Lib.hid hG;clear hG
    have Hg:=Lib.hid hg;clear hg
    have HQl:=Lib.hid hQl;clear hQl
    have HQd:=Lib.hid hQd;clear hQd
    have Hpd:=Lib.hid hpd;clear hpd
    have Hnn:=Lib.hid hnn;clear hnn
    have hwr:wq≤r:=by omega
    have hwr2:wq + 1≤799:=by omega
    have Hrw:=Lib.hid hrw;clear hrw
    have Hrr:=Lib.hid hrr;clear hrr
    obtain ⟨q,hq⟩:∃ q,q=n / 2 ^ k:=⟨_,rfl⟩
    have hqi:(n:Int) / 2 ^ k=(q:Int):=by rw [int_pow2,←Int.natCast_ediv,hq]
    have hq9:q≤9:=by
     have:=(Nat.div_lt_iff_lt_mul (Nat.pow_pos (a:=2) (n:=k) (by decide))).2 Hnn.out
     omega
    have Hq:=Lib.hid hq;clear hq
    obtain ⟨m,hm⟩:∃ m,m=n % 2 ^ k:=⟨_,rfl⟩
    have hand:bits .and .u64 (n:Int) (M:Int)=(m:Int):=by rw [hm];have h1:=Hnn.out;have h2:=H60.out;exact and_mask HM.out hk2 (by generalize 2 ^ k=p at *;omega)
    have hm2:m≤1152921504606846975:=by have h1:=Nat.mod_lt n (Nat.pow_pos (a:=2) (n:=k) (by decide));have h2:=H60.out;rw [←hm] at h1;generalize 2 ^ k=p at *;omega
    have Hm:=Lib.hid hm;clear hm
    obtain ⟨c9,hc9,cw⟩:=hD2.digE (i:=wq) (by omega)
    clear hc9
    by_cases hrn:r < nd
    ·obtain ⟨c,hc,cd⟩:=hD2.digE (i:=r) (by omega)
     have hc5:A.getD r 0=c:=by
      rw [←hc]
      simp only [List.getD_eq_getElem?_getD]
      rw [List.getElem?_append_right (by rw [HQl.out];omega),List.getElem?_drop,HQl.out,show wq + (r - wq)=r by omega]
     have hc2:=isDs_at Hds.out hrn Hlen.out
     rw [hc5] at hc2
     obtain ⟨hc3,hc4⟩:=hc2
     have Hc5:=Lib.hid hc5;clear hc5
     have HD2:=Lib.hid hD2;clear hD2
     have Hc:=Lib.hid hc;clear hc
     go_wp2_with fail
     go_roundg (nd - (r + 1))
     case measure=>rw [Hg.out];omega
     case rel =>
      have hst:=div_step (d:=c.toNat - 48) Hpd.out Hq.out Hm.out (by omega)
      refine ⟨r + 1,wq + 1,m * 10 + (c.toNat - 48),Ql ++ [UInt8.ofNat (q + 48)],by go_num,by go_num,ret_num (by omega),rfl,by have:=Hrw.out;omega,.inl (by omega),by simp [HQl.out],isDs_dig HQd.out hq9,?_,hst.2,HD2.out.put HQl.out (by omega) hA800 hq9,(by repeat (first | exact HG.out | apply gr_set | apply gr_drewN | apply gr_drew | apply gr_alloc))⟩
      rw [pd_lt hrn Hlen.out,Hc5.out,dv_dig hq9];exact hst.1
    ·have HD2 := Lib.hid hD2; clear hD2
     have hwk:wq + (k + 1)≤nd + k:=by have:=Hrw.out;have:=Hrr.out;omega
     go_wp2_with fail
     have Hst:=Lib.hid (show n=0∨∃ j,2 ^ j ∣ n∧j + (k + 1)=k + 1∧j≤k from .inr ⟨0,by simp,by omega,by omega⟩)
     have Hnr:=Lib.hid (show nd≤r0 + wq by have:=Hrw.out;omega)
     go_loopg [5,6] (k + 1) (fun g t5 t6 wr=>∃ (wq n:Nat) (Ql:By),t5=.int .i64 wq∧t6=.int .u64 n∧wq + g≤nd + k∧nd≤r0 + wq∧(n=0∨∃ j,2 ^ j ∣ n∧j + g=k + 1∧j≤k)∧Ql.length=wq∧isDs Ql∧pd A nd (r0 + wq)=10 * 2 ^ k * dv Ql + n∧n < 10 * 2 ^ k∧DecAt wr b (Ql ++ A.drop wq) nd (dp - (r0 - 1)) neg tr∧w.grownBy wr (some b))
     case atStart=>exact ⟨wq,n,Ql,rfl,rfl,hwk,Hnr.out,Hst.out,HQl.out,HQd.out,by rw [←Hrw.out];exact Hpd.out,Hnn.out,HD2.out,HG.out⟩
     case round =>
      clear c0 c1 c2 c3 cf cw hqi hq9 hand hm2 hwk Hst Hnr HQl HQd Hpd Hnn HD2 HG Hq Hm Hrw Hrr Hg hwr hwr2 hrn
      obtain ⟨wq,n,Ql,rfl,rfl,hwg,hnr,hj,hQl,hQd,hpd,hnn,hD2,hG⟩:=hrel
      obtain ⟨c0,c1,c2,c3,cf⟩:=hD2.cells
      have HG:=Lib.hid hG;clear hG
      have Hj:=Lib.hid hj;clear hj
      have Hnr:=Lib.hid hnr;clear hnr
      have HQl:=Lib.hid hQl;clear hQl
      have HQd:=Lib.hid hQd;clear hQd
      have Hpd:=Lib.hid hpd;clear hpd
      have Hnn:=Lib.hid hnn;clear hnn
      by_cases hn0:0 < n
      ·obtain ⟨q,hq⟩:∃ q,q=n / 2 ^ k:=⟨_,rfl⟩
       have hqi:(n:Int) / 2 ^ k=(q:Int):=by rw [int_pow2,←Int.natCast_ediv,hq]
       have hq9:q≤9:=by
        have:=(Nat.div_lt_iff_lt_mul (Nat.pow_pos (a:=2) (n:=k) (by decide))).2 Hnn.out
        omega
       have Hq:=Lib.hid hq;clear hq
       obtain ⟨m,hm⟩:∃ m,m=n % 2 ^ k:=⟨_,rfl⟩
       have hand:bits .and .u64 (n:Int) (M:Int)=(m:Int):=by rw [hm];have h1:=Hnn.out;have h2:=H60.out;exact and_mask HM.out hk2 (by generalize 2 ^ k=p at *;omega)
       have hm2:m≤1152921504606846975:=by have h1:=Nat.mod_lt n (Nat.pow_pos (a:=2) (n:=k) (by decide));have h2:=H60.out;rw [←hm] at h1;generalize 2 ^ k=p at *;omega
       have Hm:=Lib.hid hm;clear hm
       obtain ⟨g1,hg1⟩:∃ g1,gk=g1 + 1:=by
        rcases Hj.out with e | ⟨j,_,e,e2⟩
        ·omega
        ·exact ⟨gk - 1,by omega⟩
       have hw9:wq + 1≤799:=by omega
       obtain ⟨c9,hc9,cw⟩:=hD2.digE (i:=wq) (by omega)
       clear hc9
       have HD2:=Lib.hid hD2;clear hD2
       have Hg1:=Lib.hid hg1;clear hg1
       go_wp2_with fail
       go_roundg g1
       case measure=>have:=Hg1.out;omega
       case rel =>
        have hst:=div_step (d:=0) Hpd.out Hq.out Hm.out (by omega)
        refine ⟨wq + 1,m * 10,Ql ++ [UInt8.ofNat (q + 48)],by go_num,ret_num (by omega),by have:=Hg1.out;omega,by have:=Hnr.out;omega,?_,by simp [HQl.out],isDs_dig HQd.out hq9,?_,by omega,HD2.out.put HQl.out (by omega) hA800 hq9,(by repeat (first | exact HG.out | apply gr_set | apply gr_drewN | apply gr_drew | apply gr_alloc))⟩
        ·by_cases hm0:m=0
         ·left;omega
         ·right
          rcases Hj.out with e | ⟨j,hdv,e,e2⟩
          ·omega
          ·have hjk:j < k:=by
            by_cases hjk:j < k
            ·exact hjk
            ·exfalso
             obtain rfl:j=k:=by omega
             exact hm0 (by rw [Hm.out];exact Nat.mod_eq_zero_of_dvd hdv)
           refine ⟨j + 1,?_,by have:=Hg1.out;omega,by omega⟩
           rw [Hm.out,Nat.pow_succ]
           have h1:2 ^ j ∣ n % 2 ^ k:=(Nat.dvd_mod_iff (Nat.pow_dvd_pow 2 (by omega))).2 hdv
           obtain ⟨x,hx⟩:=h1
           exact ⟨5 * x,by rw [hx,Nat.mul_assoc,Nat.mul_assoc];congr 1;omega⟩
        ·rw [show r0 + (wq + 1)=r0 + wq + 1 by omega,pd_ge Hnr.out,dv_dig hq9];have:=hst.1;omega
      ·obtain rfl:n=0:=by omega
       have HD2:=Lib.hid hD2;clear hD2
       go_wp2_with fail
       refine (trim_any _ b (Ql ++ A.drop wq) wq (dp - (r0 - 1)) neg tr (by exact HD2.out.setNd wq) (by omega)).mono ?_
       rintro e w9 ⟨rfl,hD9,hg9⟩
       go_wp2_with fail
       go_end0
       have hQ1:(Ql ++ A.drop wq).take wq=Ql:=by rw [←HQl.out];simp
       have hwq1:1≤wq:=by
        by_cases e:wq=0
        ·exfalso
         have h1:=Hpd.out
         have h2:=HQl.out
         rw [e] at h2
         rw [List.eq_nil_of_length_eq_zero h2,e] at h1
         have h3:=Hlo.out
         have:=Nat.pow_pos (a:=2) (n:=k) (by decide)
         simp [dv] at h1;omega
        ·omega
       obtain ⟨f1,f2,f3,f4⟩:=rsh_final (w:=wq) (Q:=dv Ql) dp Hlen.out Hds.out HN.out HN0.out hr1 Hlo.out Hhi.out Hnr.out hwq1 (by have:=Hpd.out;omega)
       rw [HR1.out] at f3
       rw [HR2.out] at f4
       have hT:=trimN_dv wq (Ql ++ A.drop wq) (by rw [List.length_append,List.length_drop,HQl.out,hA800];omega) (by rw [hQ1];exact HQd.out) (by rw [hQ1];exact f1) (by rw [hQ1];exact f2)
       rw [hQ1,f3] at hT
       have hR0:R1≠0:=by rw [←f3];exact strip_pos f1
       have hR9:numD R1≠0:=by have:=numD_pos1 hR0;omega
       rw [hT.1] at hD9
       have hdp9:dpN (numD R1) (dp - (r0 - 1))=R2:=by unfold dpN;rw [if_neg hR9,←f4];omega
       rw [hdp9] at hD9
       refine ⟨rfl,⟨?_,_,hD9,?_,?_⟩,(gr_set HG.out _ _).trans hg9⟩
       ·rw [←hT.1];have:=trimN_le (Ql ++ A.drop wq) wq;omega
       ·rw [←hT.1];exact isDs_take (n:=wq) (by rw [hQ1];exact HQd.out) (trimN_le _ _)
       ·rw [←hT.1];exact hT.2
  ·have hlt : n < 2 ^ k := by omega
   have hb:=shr_lt hlt
   have hn2:n≤1152921504606846975:=by have:=H60.out;omega
   have Hlt:=Lib.hid hlt
   clear hge hlt
   by_cases hrn:r < nd
   ·obtain ⟨c,hc,cd⟩:=HD.out.digE (i:=r) (by omega)
    have hc2:=isDs_at Hds.out hrn Hlen.out
    rw [hc] at hc2
    obtain ⟨hc3,hc4⟩:=hc2
    have Hc:=Lib.hid hc;clear hc
    go_wp2_with fail
    go_roundg (nd - (r + 1))
    case measure=>rw [Hg.out];omega
    case rel =>
     refine ⟨r + 1,n * 10 + (c.toNat - 48),by go_num,ret_num (by omega),rfl,?_,by omega,.inr ?_,rfl⟩
     ·rw [pd_lt hrn Hlen.out,Hc.out,←Hn.out];omega
     ·rw [Nat.add_sub_cancel,←Hn.out];exact Hlt.out
   ·obtain rfl : r = nd := by omega
    have hn0:((n:Int) == 0)=false:=by
     have:=HN0.out;have:=pd_nd A r;have:=Hn.out;simp;omega
    go_wp2_with fail
    have hlow2:pd A r (r - 1) < 2 ^ k:=by rcases Hlow.out with e | e;omega;exact e
    have Hlow2:=Lib.hid hlow2
    have hn1':1≤n:=by simp at hn0;omega
    obtain ⟨nd,hnd0⟩:∃ nd,nd=r:=⟨_,rfl⟩
    subst hnd0
    have Hg9:=Lib.hid (show 2 ^ k - n=2 ^ k - n from rfl)
    clear hlow2 hb hn2 Hlt Hlow Hg
    go_loopg [4,6] (2 ^ k - n) (fun g t4 t6 wr=>∃ r n j:Nat,t4=.int .i64 r∧t6=.int .u64 n∧g=2 ^ k - n∧r=nd + j∧j≤19∧10 ^ j≤n∧n=pd A nd r∧(r=0∨pd A nd (r - 1) < 2 ^ k)∧w=wr)
    case atStart=>exact ⟨nd,n,0,rfl,rfl,Hg9.out,rfl,by omega,by simpa using hn1',Hn.out,.inr Hlow2.out,rfl⟩
    case round =>
     clear Hn Hlow2 Hg9 hn0 hn1'
     obtain ⟨r,n,j,rfl,rfl,hg,hrj,hj19,hjn,hn,hlow,rfl⟩:=hrel
     have Hg:=Lib.hid hg;clear hg
     have Hn:=Lib.hid hn;clear hn
     have Hlow:=Lib.hid hlow;clear hlow
     have Hjn:=Lib.hid hjn;clear hjn
     have hrb:r≤818:=by omega
     have Hrj:=Lib.hid hrj
     have hrnd:nd≤r:=by omega
     clear hrj
     by_cases hge:2 ^ k≤n
     ·have hb := shr_ge hge
      obtain ⟨r0,hr0⟩:∃ r0,r0=r:=⟨_,rfl⟩
      have Hlo:=Lib.hid (show 2 ^ k≤pd A nd r0 by rw [hr0,←Hn.out];exact hge)
      have hr1:1≤r0:=by
       have h:=Hlo.out
       by_cases e:r0=0
       ·rw [e,pd_zero] at h;have:=Nat.pow_pos (a:=2) (n:=k) (by decide);omega
       ·omega
      have Hhi:=Lib.hid (show pd A nd (r0 - 1) < 2 ^ k by rcases Hlow.out with e | e;omega;rw [hr0];exact e)
      have hn3:n < 10 * 2 ^ k:=by
       have h:=pd_step (r:=r0 - 1) Hlen.out Hds.out
       rw [show r0 - 1 + 1=r by omega,←Hn.out] at h
       have:=Hhi.out
       omega
      have Hn3:=Lib.hid hn3;clear hn3
      have Hn9:=Lib.hid (show n=pd A nd r0 by rw [hr0];exact Hn.out)
      subst hr0
      clear hge Hn Hlow Hg
      go_wp2_with fail
      have HgN:=Lib.hid (show nd - r0=nd - r0 from rfl)
      go_loopg [4,5,6] (nd - r0) (fun g t4 t5 t6 wr=>∃ (r wq n:Nat) (Ql:By),t4=.int .i64 r∧t5=.int .i64 wq∧t6=.int .u64 n∧g=nd - r∧r=r0 + wq∧(r≤nd∨r=r0)∧Ql.length=wq∧isDs Ql∧pd A nd r=10 * 2 ^ k * dv Ql + n∧n < 10 * 2 ^ k∧DecAt wr b (Ql ++ A.drop wq) nd (dp - (r0 - 1)) neg tr∧w.grownBy wr (some b))
      case atStart=>exact ⟨_,0,_,[],rfl,rfl,rfl,HgN.out,by omega,.inr rfl,rfl,(fun _ h=>by cases h),by rw [←Hn9.out];simp [dv],Hn3.out,HD.out.setDp _,gr_set (World.grownBy.refl _ _) _ _⟩
      case round =>
       clear c0 c1 c2 c3 cf hb
       obtain ⟨r,wq,n,Ql,rfl,rfl,rfl,hg,hrw,hrr,hQl,hQd,hpd,hnn,hD2,hG⟩:=hrel
       obtain ⟨c0,c1,c2,c3,cf⟩:=hD2.cells
       have HG:=Lib.hid hG;clear hG
       have Hg:=Lib.hid hg;clear hg
       have HQl:=Lib.hid hQl;clear hQl
       have HQd:=Lib.hid hQd;clear hQd
       have Hpd:=Lib.hid hpd;clear hpd
       have Hnn:=Lib.hid hnn;clear hnn
       have hwr:wq≤r:=by omega
       have hwr2:wq + 1≤799:=by omega
       have Hrw:=Lib.hid hrw;clear hrw
       have Hrr:=Lib.hid hrr;clear hrr
       obtain ⟨q,hq⟩:∃ q,q=n / 2 ^ k:=⟨_,rfl⟩
       have hqi:(n:Int) / 2 ^ k=(q:Int):=by rw [int_pow2,←Int.natCast_ediv,hq]
       have hq9:q≤9:=by
        have:=(Nat.div_lt_iff_lt_mul (Nat.pow_pos (a:=2) (n:=k) (by decide))).2 Hnn.out
        omega
       have Hq:=Lib.hid hq;clear hq
       obtain ⟨m,hm⟩:∃ m,m=n % 2 ^ k:=⟨_,rfl⟩
       have hand:bits .and .u64 (n:Int) (M:Int)=(m:Int):=by rw [hm];have h1:=Hnn.out;have h2:=H60.out;exact and_mask HM.out hk2 (by generalize 2 ^ k=p at *;omega)
       have hm2:m≤1152921504606846975:=by have h1:=Nat.mod_lt n (Nat.pow_pos (a:=2) (n:=k) (by decide));have h2:=H60.out;rw [←hm] at h1;generalize 2 ^ k=p at *;omega
       have Hm:=Lib.hid hm;clear hm
       obtain ⟨c9,hc9,cw⟩:=hD2.digE (i:=wq) (by omega)
       clear hc9
       by_cases hrn:r < nd
       ·obtain ⟨c,hc,cd⟩:=hD2.digE (i:=r) (by omega)
        have hc5:A.getD r 0=c:=by
         rw [←hc]
         simp only [List.getD_eq_getElem?_getD]
         rw [List.getElem?_append_right (by rw [HQl.out];omega),List.getElem?_drop,HQl.out,show wq + (r - wq)=r by omega]
        have hc2:=isDs_at Hds.out hrn Hlen.out
        rw [hc5] at hc2
        obtain ⟨hc3,hc4⟩:=hc2
        have Hc5:=Lib.hid hc5;clear hc5
        have HD2:=Lib.hid hD2;clear hD2
        have Hc:=Lib.hid hc;clear hc
        go_wp2_with fail
        go_roundg (nd - (r + 1))
        case measure=>rw [Hg.out];omega
        case rel =>
         have hst:=div_step (d:=c.toNat - 48) Hpd.out Hq.out Hm.out (by omega)
         refine ⟨r + 1,wq + 1,m * 10 + (c.toNat - 48),Ql ++ [UInt8.ofNat (q + 48)],by go_num,by go_num,ret_num (by omega),rfl,by have:=Hrw.out;omega,.inl (by omega),by simp [HQl.out],isDs_dig HQd.out hq9,?_,hst.2,HD2.out.put HQl.out (by omega) hA800 hq9,(by repeat (first | exact HG.out | apply gr_set | apply gr_drewN | apply gr_drew | apply gr_alloc))⟩
         rw [pd_lt hrn Hlen.out,Hc5.out,dv_dig hq9];exact hst.1
       ·have HD2 := Lib.hid hD2; clear hD2
        have hwk:wq + (k + 1)≤nd + k:=by have:=Hrw.out;have:=Hrr.out;omega
        go_wp2_with fail
        have Hst:=Lib.hid (show n=0∨∃ j,2 ^ j ∣ n∧j + (k + 1)=k + 1∧j≤k from .inr ⟨0,by simp,by omega,by omega⟩)
        have Hnr:=Lib.hid (show nd≤r0 + wq by have:=Hrw.out;omega)
        go_loopg [5,6] (k + 1) (fun g t5 t6 wr=>∃ (wq n:Nat) (Ql:By),t5=.int .i64 wq∧t6=.int .u64 n∧wq + g≤nd + k∧nd≤r0 + wq∧(n=0∨∃ j,2 ^ j ∣ n∧j + g=k + 1∧j≤k)∧Ql.length=wq∧isDs Ql∧pd A nd (r0 + wq)=10 * 2 ^ k * dv Ql + n∧n < 10 * 2 ^ k∧DecAt wr b (Ql ++ A.drop wq) nd (dp - (r0 - 1)) neg tr∧w.grownBy wr (some b))
        case atStart=>exact ⟨wq,n,Ql,rfl,rfl,hwk,Hnr.out,Hst.out,HQl.out,HQd.out,by rw [←Hrw.out];exact Hpd.out,Hnn.out,HD2.out,HG.out⟩
        case round =>
         clear c0 c1 c2 c3 cf cw hqi hq9 hand hm2 hwk Hst Hnr HQl HQd Hpd Hnn HD2 HG Hq Hm Hrw Hrr Hg hwr hwr2 hrn
         obtain ⟨wq,n,Ql,rfl,rfl,hwg,hnr,hj,hQl,hQd,hpd,hnn,hD2,hG⟩:=hrel
         obtain ⟨c0,c1,c2,c3,cf⟩:=hD2.cells
         have HG:=Lib.hid hG;clear hG
         have Hj:=Lib.hid hj;clear hj
         have Hnr:=Lib.hid hnr;clear hnr
         have HQl:=Lib.hid hQl;clear hQl
         have HQd:=Lib.hid hQd;clear hQd
         have Hpd:=Lib.hid hpd;clear hpd
         have Hnn:=Lib.hid hnn;clear hnn
         by_cases hn0:0 < n
         ·obtain ⟨q,hq⟩:∃ q,q=n / 2 ^ k:=⟨_,rfl⟩
          have hqi:(n:Int) / 2 ^ k=(q:Int):=by rw [int_pow2,←Int.natCast_ediv,hq]
          have hq9:q≤9:=by
           have:=(Nat.div_lt_iff_lt_mul (Nat.pow_pos (a:=2) (n:=k) (by decide))).2 Hnn.out
           omega
          have Hq:=Lib.hid hq;clear hq
          obtain ⟨m,hm⟩:∃ m,m=n % 2 ^ k:=⟨_,rfl⟩
          have hand:bits .and .u64 (n:Int) (M:Int)=(m:Int):=by rw [hm];have h1:=Hnn.out;have h2:=H60.out;exact and_mask HM.out hk2 (by generalize 2 ^ k=p at *;omega)
          have hm2:m≤1152921504606846975:=by have h1:=Nat.mod_lt n (Nat.pow_pos (a:=2) (n:=k) (by decide));have h2:=H60.out;rw [←hm] at h1;generalize 2 ^ k=p at *;omega
          have Hm:=Lib.hid hm;clear hm
          obtain ⟨g1,hg1⟩:∃ g1,gk=g1 + 1:=by
           rcases Hj.out with e | ⟨j,_,e,e2⟩
           ·omega
           ·exact ⟨gk - 1,by omega⟩
          have hw9:wq + 1≤799:=by omega
          obtain ⟨c9,hc9,cw⟩:=hD2.digE (i:=wq) (by omega)
          clear hc9
          have HD2:=Lib.hid hD2;clear hD2
          have Hg1:=Lib.hid hg1;clear hg1
          go_wp2_with fail
          go_roundg g1
          case measure=>have:=Hg1.out;omega
          case rel =>
           have hst:=div_step (d:=0) Hpd.out Hq.out Hm.out (by omega)
           refine ⟨wq + 1,m * 10,Ql ++ [UInt8.ofNat (q + 48)],by go_num,ret_num (by omega),by have:=Hg1.out;omega,by have:=Hnr.out;omega,?_,by simp [HQl.out],isDs_dig HQd.out hq9,?_,by omega,HD2.out.put HQl.out (by omega) hA800 hq9,(by repeat (first | exact HG.out | apply gr_set | apply gr_drewN | apply gr_drew | apply gr_alloc))⟩
           ·by_cases hm0:m=0
            ·left;omega
            ·right
             rcases Hj.out with e | ⟨j,hdv,e,e2⟩
             ·omega
             ·have hjk:j < k:=by
               by_cases hjk:j < k
               ·exact hjk
               ·exfalso
                obtain rfl:j=k:=by omega
                exact hm0 (by rw [Hm.out];exact Nat.mod_eq_zero_of_dvd hdv)
              refine ⟨j + 1,?_,by have:=Hg1.out;omega,by omega⟩
              rw [Hm.out,Nat.pow_succ]
              have h1:2 ^ j ∣ n % 2 ^ k:=(Nat.dvd_mod_iff (Nat.pow_dvd_pow 2 (by omega))).2 hdv
              obtain ⟨x,hx⟩:=h1
              exact ⟨5 * x,by rw [hx,Nat.mul_assoc,Nat.mul_assoc];congr 1;omega⟩
           ·rw [show r0 + (wq + 1)=r0 + wq + 1 by omega,pd_ge Hnr.out,dv_dig hq9];have:=hst.1;omega
         ·obtain rfl:n=0:=by omega
          have HD2:=Lib.hid hD2;clear hD2
          go_wp2_with fail
          refine (trim_any _ b (Ql ++ A.drop wq) wq (dp - (r0 - 1)) neg tr (by exact HD2.out.setNd wq) (by omega)).mono ?_
          rintro e w9 ⟨rfl,hD9,hg9⟩
          go_wp2_with fail
          go_end0
          have hQ1:(Ql ++ A.drop wq).take wq=Ql:=by rw [←HQl.out];simp
          have hwq1:1≤wq:=by
           by_cases e:wq=0
           ·exfalso
            have h1:=Hpd.out
            have h2:=HQl.out
            rw [e] at h2
            rw [List.eq_nil_of_length_eq_zero h2,e] at h1
            have h3:=Hlo.out
            have:=Nat.pow_pos (a:=2) (n:=k) (by decide)
            simp [dv] at h1;omega
           ·omega
          obtain ⟨f1,f2,f3,f4⟩:=rsh_final (w:=wq) (Q:=dv Ql) dp Hlen.out Hds.out HN.out HN0.out hr1 Hlo.out Hhi.out Hnr.out hwq1 (by have:=Hpd.out;omega)
          rw [HR1.out] at f3
          rw [HR2.out] at f4
          have hT:=trimN_dv wq (Ql ++ A.drop wq) (by rw [List.length_append,List.length_drop,HQl.out,hA800];omega) (by rw [hQ1];exact HQd.out) (by rw [hQ1];exact f1) (by rw [hQ1];exact f2)
          rw [hQ1,f3] at hT
          have hR0:R1≠0:=by rw [←f3];exact strip_pos f1
          have hR9:numD R1≠0:=by have:=numD_pos1 hR0;omega
          rw [hT.1] at hD9
          have hdp9:dpN (numD R1) (dp - (r0 - 1))=R2:=by unfold dpN;rw [if_neg hR9,←f4];omega
          rw [hdp9] at hD9
          refine ⟨rfl,⟨?_,_,hD9,?_,?_⟩,(gr_set HG.out _ _).trans hg9⟩
          ·rw [←hT.1];have:=trimN_le (Ql ++ A.drop wq) wq;omega
          ·rw [←hT.1];exact isDs_take (n:=wq) (by rw [hQ1];exact HQd.out) (trimN_le _ _)
          ·rw [←hT.1];exact hT.2
     ·have hlt:n < 2 ^ k:=by omega
      have hb:=shr_lt hlt
      have hn2:n≤1152921504606846975:=by have:=H60.out;omega
      have Hlt:=Lib.hid hlt
      clear hge hlt
      have hj9:j < 19:=by
       by_cases h:j < 19
       ·exact h
       ·obtain rfl:j=19:=by omega
        have h1:=Hjn.out
        have:(10:Nat) ^ 19=10000000000000000000:=by decide
        omega
      go_wp2_with fail
      go_roundg (2 ^ k - n * 10)
      case measure=>rw [Hg.out];have h1:=Hlt.out;have h2:=Hjn.out;have:=pow10_pos j;omega
      case rel=>exact ⟨r + 1,n * 10,j + 1,by go_num,by go_num,rfl,by have:=Hrj.out;omega,by omega,by rw [Nat.pow_succ];exact Nat.mul_le_mul_right _ Hjn.out,by rw [pd_ge hrnd,←Hn.out];omega,.inr (by rw [Nat.add_sub_cancel,←Hn.out];exact Hlt.out),rfl⟩
end Go.Proofs.YtfkecmlmnhbmoaaGreatDoor
namespace Go.Proofs.YtfkecmlmnhbmoaaGreatDoor
theorem litF_len:∀ (n:Nat) (l:By) (op:Int) (out o' r:By),l.length≤n→litF l op out=some (o',r)→r.length < l.length:=by
 intro n
 induction n with
 | zero =>
  intro l op out o' r hl h
  obtain rfl:l=[]:=List.eq_nil_of_length_eq_zero (by omega)
  rw [litF_nil] at h;exact absurd h (by simp)
 | succ n ih =>
  intro l op out o' r hl h
  cases l with
  | nil=>rw [litF_nil] at h;exact absurd h (by simp)
  | cons c l =>
   simp only [List.length_cons] at hl ⊢
   have h1:=skip10_len l
   have h2:=escF_len l
   rw [litF_cons] at h
   repeat' split at h
   all_goals first
    | (have:=ih _ _ _ _ _ (by omega) h;omega)
    | (simp at h;obtain ⟨_,rfl⟩:=h;omega)
theorem hexF_len:∀ (l:By) (od:Bool) (half:Int) (out:By) (o:Bool),(hexF l od half out o).1=0→(hexF l od half out o).2.2.1.length < l.length:=by
 intro l
 induction l with
 | nil=>intro od half out o h;simp [hexF] at h
 | cons c l ih =>
  intro od half out o h
  simp only [hexF] at h ⊢
  split at h
  ·rename_i hc;simp only [hc,if_true];simp
  ·rename_i hc
   simp only [hc]
   simp only [Bool.false_eq_true,if_false]
   split at h
   ·rename_i hw;simp only [hw,if_true];exact Nat.lt_succ_of_lt (ih _ _ _ _ h)
   ·rename_i hw
    simp only [hw,Bool.false_eq_true,if_false]
    split at h
    ·simp at h
    ·rename_i hv
     rw [if_neg hv]
     split at h
     ·rename_i ho;simp only [ho,if_true];exact Nat.lt_succ_of_lt (ih _ _ _ _ h)
     ·rename_i ho;simp only [ho];exact Nat.lt_succ_of_lt (ih _ _ _ _ h)
theorem refF_len {pf:By→Nat} {n:Int} {t l:By} {o:Bool} {x:PV} {r:By} {o':Bool} (h:refF pf n t l o=some (x,r,o')):r.length≤l.length:=by
 have h1:=passM_len false l o
 have h2:=wordR_len (passM false l o).1
 have h3:=passM_len false (wordR (passM false l o).1) (wordO (passM false l o).1 (passM false l o).2)
 have h4:=wordR_len (passM false (wordR (passM false l o).1) (wordO (passM false l o).1 (passM false l o).2)).1
 simp only [refF] at h
 repeat' split at h
 all_goals simp at h
 ·obtain ⟨_,rfl,_⟩:=h;exact Nat.le_refl _
 ·obtain ⟨_,rfl,_⟩:=h;exact Nat.le_refl _
 ·obtain ⟨_,rfl,_⟩:=h;omega
theorem rdNum_len {pf:By→Nat} {l:By} {o:Bool} {x:PV} {r:By} {o':Bool} (h:rdNum pf l o=some (x,r,o')):r.length < l.length:=by
 have hs:(wordT l).length + (wordR l).length=l.length:=by rw [←List.length_append,word_split]
 have hne:wordT l≠[]:=by
  intro e
  simp only [rdNum,e] at h
  simp [wTrue,wFalse,wNull,numF,numStrip,numScan] at h
 have hp:0 < (wordT l).length:=List.length_pos_iff.2 hne
 simp only [rdNum] at h
 repeat' split at h
 ·simp at h;obtain ⟨_,rfl,_⟩:=h;omega
 ·simp at h;obtain ⟨_,rfl,_⟩:=h;omega
 ·simp at h;obtain ⟨_,rfl,_⟩:=h;omega
 ·simp at h
 ·simp at h;obtain ⟨_,rfl,_⟩:=h;omega
 ·have:=refF_len h;omega
theorem rdArr_len {f:By→Bool→Rd PV} (hf:∀ l o x r o',f l o=some (x,r,o')→r.length < l.length):∀ (m:Nat) (l:By) (o:Bool) (acc kids:List PV) (r:By) (o':Bool),rdArr f m l o acc=some (kids,r,o')→r.length < l.length:=by
 intro m
 induction m with
 | zero=>intro l o acc kids r o' h;simp [rdArr] at h
 | succ m ih =>
  intro l o acc kids r o' h
  have h1:=passM_len false l o
  simp only [rdArr] at h
  generalize passM false l o=a at h h1
  obtain ⟨la,oa⟩:=a
  simp only at h h1
  split at h
  ·rename_i hc
   simp at h
   obtain ⟨_,rfl,_⟩:=h
   cases la with
   | nil=>simp [headIs] at hc
   | cons c la=>simp at h1 ⊢;omega
  ·split at h
   ·simp at h
   ·rename_i x l2 o2 e
    have:=hf _ _ _ _ _ e
    have:=ih _ _ _ _ _ _ h
    omega
theorem rdDict_len {f:By→Bool→Rd PV} (hf:∀ l o x r o',f l o=some (x,r,o')→r.length < l.length):∀ (m:Nat) (l:By) (o:Bool) (ks:List By) (acc:List PV) (res:List By × List PV) (r:By) (o':Bool),rdDict f m l o ks acc=some (res,r,o')→r.length < l.length:=by
 intro m
 induction m with
 | zero=>intro l o ks acc res r o' h;simp [rdDict] at h
 | succ m ih =>
  intro l o ks acc res r o' h
  have h1:=passM_len false l o
  simp only [rdDict] at h
  generalize passM false l o=a at h h1
  obtain ⟨la,oa⟩:=a
  simp only at h h1
  split at h
  ·rename_i hc
   simp at h
   obtain ⟨_,rfl,_⟩:=h
   cases la with
   | nil=>simp [is2] at hc
   | cons c la =>
    cases la with
    | nil=>simp [is2] at hc
    | cons d la=>simp at h1 ⊢;omega
  ·split at h
   ·rename_i hc
    cases la with
    | nil=>simp [headIs] at hc
    | cons c la =>
     simp only [List.tail_cons] at h
     have h2:=wordR_len la
     simp only [List.length_cons] at h1
     split at h
     ·simp at h
     ·split at h
      ·simp at h
      ·split at h
       ·simp at h
       ·rename_i x l2 o2 e
        have:=hf _ _ _ _ _ e
        have:=ih _ _ _ _ _ _ _ h
        omega
   ·simp at h
theorem rdV_len (pf:By→Nat):∀ (n:Nat) (l:By) (o:Bool) (x:PV) (r:By) (o':Bool),rdV pf n l o=some (x,r,o')→r.length < l.length:=by
 intro n
 induction n with
 | zero=>intro l o x r o' h;simp [rdV] at h
 | succ n ih =>
  intro l o x r o' h
  have h1:=passM_len false l o
  simp only [rdV] at h
  generalize passM false l o=a at h h1
  obtain ⟨la,oa⟩:=a
  simp only at h h1
  cases la with
  | nil=>simp at h
  | cons c la =>
   simp only [List.length_cons] at h1
   simp only at h
   split at h
   ·simp at h
    obtain ⟨a1,b1,e,_,rfl,_⟩:=h
    have:=litF_len _ _ _ _ _ _ (Nat.le_refl _) e
    simp at this;omega
   ·split at h
    ·rename_i hc
     cases la with
     | nil=>simp [is2] at hc
     | cons d la =>
      rw [Option.map_eq_some_iff] at h
      obtain ⟨⟨q,r1,o1⟩,e,h⟩:=h
      simp at h
      obtain ⟨_,rfl,_⟩:=h
      have:=rdDict_len ih _ _ _ _ _ _ _ _ e
      simp at h1 this;omega
    ·split at h
     ·split at h
      ·rename_i hh
       simp at h
       obtain ⟨_,rfl,_⟩:=h
       have:=hexF_len _ _ _ _ _ (by simpa using hh)
       omega
      ·simp at h
     ·split at h
      ·simp at h
       obtain ⟨a1,e,_,rfl,_⟩:=h
       have:=wordR_len la
       omega
      ·split at h
       ·rw [Option.map_eq_some_iff] at h
        obtain ⟨⟨q,r1,o1⟩,e,h⟩:=h
        simp at h
        obtain ⟨_,rfl,_⟩:=h
        have:=rdArr_len ih _ _ _ _ _ _ _ e
        omega
       ·split at h
        ·simp at h
        ·have:=rdNum_len h
         simp at this;omega
end Go.Proofs.YtfkecmlmnhbmoaaGreatDoor
