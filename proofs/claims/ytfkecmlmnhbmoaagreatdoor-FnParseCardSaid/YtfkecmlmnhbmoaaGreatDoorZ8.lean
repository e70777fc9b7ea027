/- FnParse: the texts F4 P2 P3 P4 F11 P5 of the workbench, laid together. -/
import Derived.Test.YtfkecmlmnhbmoaaGreatDoorProg
import Derived.WalkKit
import Derived.WalkLawsBesides
import Derived.WalkSpells
import Derived.BigQuiet
import Derived.BigRegion
import Derived.Deep.QuietTactic
import Derived.Deep.RegionHeld3
import Derived.Deep.LoopGhost
import Derived.StillTailTactics
import Derived.Lib.Hide
import Derived.Laws.EntriesVeiled
import Derived.Lib.AtoiAll
import Derived.Test.YtfkecmlmnhbmoaaGreatDoorZ1
import Derived.Test.YtfkecmlmnhbmoaaGreatDoorZ7
set_option linter.unusedVariables false
set_option linter.unusedSimpArgs false
namespace Go.Proofs.YtfkecmlmnhbmoaaGreatDoor
open Go Go.RowKit
def dv (l:By):Nat:=l.foldl (fun n c=>10 * n + (c.toNat - 48)) 0
def isDs (l:By):Prop:=∀ c∈l,48≤c.toNat∧c.toNat≤57
theorem dv_snoc (l:By) (c:UInt8):dv (l ++ [c])=10 * dv l + (c.toNat - 48):=by simp [dv]
theorem isDs_snoc {l:By} {c:UInt8} (h:isDs l) (h1:48≤c.toNat) (h2:c.toNat≤57):isDs (l ++ [c]):=by
  intro x hx
  rcases List.mem_append.1 hx with h3 | h3
  · exact h x h3
  · simp at h3;subst h3;exact ⟨h1,h2⟩
theorem take_snocD {A:By} {r:Nat} (h:r < A.length):A.take (r + 1)=A.take r ++ [A.getD r 0]:=by
  rw [List.take_succ_eq_append_getElem h];simp [h]
theorem dv_take {A:By} {r:Nat} (h:r < A.length):dv (A.take (r + 1))=10 * dv (A.take r) + ((A.getD r 0).toNat - 48):=by
  rw [take_snocD h,dv_snoc]
theorem isDs_at {A:By} {n r:Nat} (h:isDs (A.take n)) (hr:r < n) (h2:n≤A.length):48≤(A.getD r 0).toNat∧(A.getD r 0).toNat≤57:=by
  have hl:r < A.length:=by omega
  refine h _ ?_
  rw [List.mem_take_iff_getElem]
  exact ⟨r,by omega,by simp [hl]⟩
theorem isDs_take {A:By} {n m:Nat} (h:isDs (A.take n)) (hm:m≤n):isDs (A.take m):=by
  intro x hx
  exact h x (by rw [List.mem_take_iff_getElem] at hx ⊢;obtain ⟨i,hi,e⟩:=hx;exact ⟨i,by omega,e⟩)
theorem dv_lt:∀ (n:Nat) (A:By),n≤A.length→isDs (A.take n)→dv (A.take n) < 10 ^ n:=by
  intro n
  induction n with
  | zero=>intro A _ _;simp [dv]
  | succ n ih =>
    intro A h hd
    have h1:=ih A (by omega) (isDs_take hd (by omega))
    have h2:=isDs_at hd (r:=n) (by omega) h
    rw [dv_take (by omega),Nat.pow_succ]
    omega
def pd (A:By) (nd r:Nat):Nat:=if r≤nd then dv (A.take r) else dv (A.take nd) * 10 ^ (r - nd)
theorem pd_zero (A:By) (nd:Nat):pd A nd 0=0:=by simp [pd,dv]
theorem pd_nd (A:By) (nd:Nat):pd A nd nd=dv (A.take nd):=by simp [pd]
theorem pd_lt {A:By} {nd r:Nat} (h:r < nd) (h2:nd≤A.length):pd A nd (r + 1)=10 * pd A nd r + ((A.getD r 0).toNat - 48):=by
  unfold pd
  rw [if_pos (by omega),if_pos (by omega),dv_take (by omega)]
theorem pd_ge {A:By} {nd r:Nat} (h:nd≤r):pd A nd (r + 1)=10 * pd A nd r:=by
  unfold pd
  rw [if_neg (by omega)]
  by_cases e:r=nd
  · subst e;simp;omega
  · rw [if_neg (by omega),show r + 1 - nd=(r - nd) + 1 by omega,Nat.pow_succ,←Nat.mul_assoc];omega
theorem pd_step {A:By} {nd r:Nat} (h2:nd≤A.length) (hd:isDs (A.take nd)):10 * pd A nd r≤pd A nd (r + 1)∧pd A nd (r + 1)≤10 * pd A nd r + 9:=by
  by_cases h:r < nd
  · rw [pd_lt h h2];have:=isDs_at hd h h2;omega
  · rw [pd_ge (by omega)];omega
theorem pd_add {A:By} {nd:Nat} (h2:nd≤A.length) (hd:isDs (A.take nd)) (r:Nat):∀ (w:Nat),10 ^ w * pd A nd r≤pd A nd (r + w)∧pd A nd (r + w) < 10 ^ w * (pd A nd r + 1):=by
  intro w
  induction w with
  | zero=>simp
  | succ w ih =>
    have h:=pd_step (r:=r + w) h2 hd
    rw [show r + (w + 1)=r + w + 1 by omega,Nat.pow_succ]
    have e1:10 ^ w * 10 * pd A nd r=10 * (10 ^ w * pd A nd r):=by rw [Nat.mul_comm (10 ^ w) 10,Nat.mul_assoc]
    have e2:10 ^ w * 10 * (pd A nd r + 1)=10 * (10 ^ w * (pd A nd r + 1)):=by rw [Nat.mul_comm (10 ^ w) 10,Nat.mul_assoc]
    rw [e1,e2]
    omega
theorem strip_mul10:∀ (j n:Nat),n≠0→strip (n * 10 ^ j)=strip n∧numD (n * 10 ^ j)=numD n + j:=by
  intro j
  induction j with
  | zero=>intro n _;simp
  | succ j ih =>
    intro n h
    have h1:=ih n h
    have h2:n * 10 ^ (j + 1)=n * 10 ^ j * 10:=by rw [Nat.pow_succ,Nat.mul_assoc]
    have h3:n * 10 ^ j≠0:=Nat.mul_ne_zero h (Nat.pos_iff_ne_zero.1 (pow10_pos j))
    rw [h2]
    refine ⟨?_,?_⟩
    · rw [strip_step (by omega) (by omega),Nat.mul_div_cancel _ (by decide)];exact h1.1
    · rw [numD_pos (by omega),Nat.mul_div_cancel _ (by decide),h1.2];omega
theorem rsh_final {A:By} {nd k r0 w Q:Nat} (dp:Int) (h2:nd≤A.length) (hd:isDs (A.take nd)) (hN:numD (dv (A.take nd))=nd) (hN0:dv (A.take nd)≠0) (hr0:1≤r0) (hlo:2 ^ k≤pd A nd r0) (hhi:pd A nd (r0 - 1) < 2 ^ k) (hr:nd≤r0 + w) (hw:1≤w) (hQ:pd A nd (r0 + w)=10 * 2 ^ k * Q) :
    Q≠0∧numD Q=w∧strip Q=rsN k (dv (A.take nd))∧dp - (r0 - 1:Nat)=rsP k (dv (A.take nd)) dp:=by
  have hp2:0 < 2 ^ k:=Nat.pow_pos (by decide)
  have hb:=pd_add h2 hd r0 w
  have hs:=pd_step (r:=r0 - 1) h2 hd
  rw [show r0 - 1 + 1=r0 by omega] at hs
  have hw10:10 ^ w=10 * 10 ^ (w - 1):=by
    conv=>lhs;rw [show w=(w - 1) + 1 by omega,Nat.pow_succ]
    omega
  have hlo2:10 ^ (w - 1)≤Q:=by
    have h1:10 ^ w * 2 ^ k≤10 * 2 ^ k * Q:=by rw [←hQ];exact Nat.le_trans (Nat.mul_le_mul_left _ hlo) hb.1
    rw [hw10,show 10 * 10 ^ (w - 1) * 2 ^ k=10 * 2 ^ k * 10 ^ (w - 1) by rw [Nat.mul_assoc,Nat.mul_comm (10 ^ (w - 1)),←Nat.mul_assoc]] at h1
    exact Nat.le_of_mul_le_mul_left h1 (by omega)
  have hhi2:Q < 10 ^ w:=by
    have h1:10 * 2 ^ k * Q < 10 ^ w * (10 * 2 ^ k):=by
      rw [←hQ];exact Nat.lt_of_lt_of_le hb.2 (Nat.mul_le_mul_left _ (by omega))
    rw [Nat.mul_comm (10 ^ w)] at h1
    exact Nat.lt_of_mul_lt_mul_left h1
  have hQ0:Q≠0:=by have:=pow10_pos (w - 1);omega
  have hQD:numD Q=w:=by
    have:=numD_eq (n:=Q) (m:=w - 1) hlo2 (by rw [show w - 1 + 1=w by omega];exact hhi2)
    omega
  obtain ⟨j,hj⟩:∃ j,r0 + w=nd + j:=⟨r0 + w - nd,by omega⟩
  have hP:pd A nd (nd + j)=dv (A.take nd) * 10 ^ j:=by
    unfold pd
    by_cases e:j=0
    · subst e;simp
    · rw [if_neg (by omega),show nd + j - nd=j by omega]
  rw [hj,hP] at hQ
  generalize dv (A.take nd)=N at *
  have e5:N * 5 ^ k * 10 ^ j=Q * 10 ^ (k + 1):=by
    rw [show N * 5 ^ k * 10 ^ j=N * 10 ^ j * 5 ^ k by rw [Nat.mul_assoc,Nat.mul_comm (5 ^ k),←Nat.mul_assoc],hQ]
    rw [show (10:Nat) ^ (k + 1)=10 * (2 ^ k * 5 ^ k) by rw [←Nat.mul_pow,Nat.pow_succ,Nat.mul_comm]]
    rw [Nat.mul_comm Q,Nat.mul_assoc 10 (2 ^ k) Q,Nat.mul_assoc 10,Nat.mul_assoc 10]
    congr 1
    rw [Nat.mul_assoc,Nat.mul_assoc,Nat.mul_comm Q]
  have hN5:N * 5 ^ k≠0:=Nat.mul_ne_zero hN0 (pow5_ne k)
  have s1:=strip_mul10 j _ hN5
  have s2:=strip_mul10 (k + 1) _ hQ0
  rw [e5] at s1
  refine ⟨hQ0,hQD,?_,?_⟩
  · unfold rsN;rw [←s1.1,←s2.1]
  · unfold rsP;omega
theorem trimN_dv:∀ (n:Nat) (A:By),n≤A.length→isDs (A.take n)→dv (A.take n)≠0→numD (dv (A.take n))=n→trimN A n=numD (strip (dv (A.take n)))∧dv (A.take (trimN A n))=strip (dv (A.take n)):=by
  intro n
  induction n with
  | zero=>intro A _ _ h;simp [dv] at h
  | succ n ih =>
    intro A hl hd h0 hn
    have h1:=isDs_at hd (r:=n) (by omega) hl
    have h2:=dv_take (A:=A) (r:=n) (by omega)
    simp only [trimN]
    by_cases h48:(A.getD n 0).toNat=48
    · rw [if_pos h48]
      have h3:dv (A.take (n + 1))=dv (A.take n) * 10:=by omega
      have h4:dv (A.take n)≠0:=by omega
      have h5:=strip_mul10 1 _ h4
      simp only [Nat.pow_one] at h5
      rw [h3] at hn ⊢
      rw [h5.1]
      exact ih A (by omega) (isDs_take hd (by omega)) h4 (by omega)
    · rw [if_neg h48,strip_stop (by omega)]
      exact ⟨hn.symm,rfl⟩
def DecN (w:World) (b:Nat) (N:Nat) (dp:Int) (neg tr:Bool):Prop :=
  numD N≤800∧∃ A,DecAt w b A (numD N) dp neg tr∧isDs (A.take (numD N))∧dv (A.take (numD N))=N
end Go.Proofs.YtfkecmlmnhbmoaaGreatDoor
namespace Go.Proofs.YtfkecmlmnhbmoaaGreatDoor
theorem octM_len:∀ (n:Nat) (l:By) (out:Int),(octM n l out).2.length≤l.length:=by
  intro n
  induction n with
  | zero=>intro l out;exact Nat.le_refl _
  | succ n ih =>
    intro l out
    cases l with
    | nil=>exact Nat.le_refl _
    | cons c l =>
      simp only [octM]
      split
      · exact Nat.le_trans (ih l _) (by simp)
      · exact Nat.le_refl _
theorem esc13_len (l:By):(esc13 l).2.2.length≤l.length:=by
  cases l with
  | nil=>exact Nat.le_refl _
  | cons c l =>
    simp only [esc13]
    split<;>simp
theorem escF_len (l:By):(escF l).2.2.length≤l.length:=by
  cases l with
  | nil=>exact Nat.le_refl _
  | cons c l =>
    have h1:=octM_len 2 l ((c.toNat:Int) - 48)
    have h2:=esc13_len l
    simp only [escF]
    repeat' split
    all_goals simp
    all_goals omega
def skip10:By→By
  | []=>[]
  | d::l=>if (d.toNat:Int) == 10 then l else d::l
theorem skip10_len (l:By):(skip10 l).length≤l.length:=by
  cases l with
  | nil=>exact Nat.le_refl _
  | cons c l =>
    simp only [skip10]
    split<;>simp
def litF (l:By) (op:Int) (out:By):Option (By × By) :=
  match l with
  | []=>none
  | c::l =>
    if (c.toNat:Int) == 40 then (if op + 1 == 1 then litF l (op + 1) out else litF l (op + 1) (out ++ [c]))
    else if (c.toNat:Int) == 41 then (if op - 1 == 0 then some (out,l) else litF l (op - 1) (out ++ [c]))
    else if (c.toNat:Int) == 13 then litF (skip10 l) op (out ++ [10])
    else if (c.toNat:Int) == 92 then (if (escF l).2.1 then litF (escF l).2.2 op (out ++ [UInt8.ofNat (escF l).1.toNat]) else litF (escF l).2.2 op out)
    else litF l op (out ++ [c])
termination_by l.length
decreasing_by
  all_goals first
    | (have:=skip10_len l;simp;omega)
    | (have:=escF_len l;simp;omega)
    | simp
theorem litF_nil (op:Int) (out:By):litF [] op out=none:=by rw [litF]
theorem litF_cons (c:UInt8) (l:By) (op:Int) (out:By):litF (c::l) op out =
    if (c.toNat:Int) == 40 then (if op + 1 == 1 then litF l (op + 1) out else litF l (op + 1) (out ++ [c]))
    else if (c.toNat:Int) == 41 then (if op - 1 == 0 then some (out,l) else litF l (op - 1) (out ++ [c]))
    else if (c.toNat:Int) == 13 then litF (skip10 l) op (out ++ [10])
    else if (c.toNat:Int) == 92 then (if (escF l).2.1 then litF (escF l).2.2 op (out ++ [UInt8.ofNat (escF l).1.toNat]) else litF (escF l).2.2 op out)
    else litF l op (out ++ [c]):=by rw [litF]
theorem escF_range (l:By):0≤(escF l).1∧(escF l).1≤255:=by
  cases l with
  | nil=>simp [escF]
  | cons c l =>
    have hc:=bi_range c
    have h2:0≤(esc13 l).1∧(esc13 l).1≤255:=by
      cases l with
      | nil=>simp [esc13]
      | cons d l=>simp only [esc13];split<;>simp
    simp only [escF]
    repeat' split
    all_goals first
      | exact h2
      | (simp;omega)
      | (simp;done)
theorem byte_of (n:Int) (h0:0≤n) (h1:n≤255):n=((UInt8.ofNat n.toNat).toNat:Int):=by
  rw [UInt8.toNat_ofNat']
  omega
end Go.Proofs.YtfkecmlmnhbmoaaGreatDoor
namespace Go.Proofs.YtfkecmlmnhbmoaaGreatDoor
theorem hexVal_range (n:Int):hexVal n=-1∨0≤hexVal n∧hexVal n≤15:=by
  unfold hexVal
  repeat' split
  all_goals omega
def ub (n:Int):UInt8:=UInt8.ofNat n.toNat
theorem ub_of {n:Int} (h0:0≤n) (h1:n≤255):n=((ub n).toNat:Int):=byte_of n h0 h1
theorem ub_mod {n:Int} (h0:0≤n) (h1:n≤255):n % 256=((ub n).toNat:Int):=by rw [Int.emod_eq_of_lt h0 (by omega)];exact byte_of n h0 h1
def hexF:By→Bool→Int→By→Bool→Int × By × By × Bool
  | [],_,_,_,o=>(1,[],[],o)
  | c::l,od,half,out,o =>
    if (c.toNat:Int) == 62 then (0,if od then out ++ [ub (half * 16)] else out,l,o)
    else if isWhite (c.toNat:Int) then hexF l od half out (o || od || (c.toNat:Int) == 0)
    else if hexVal (c.toNat:Int) < 0 then (2,[],l,o)
    else if od then hexF l false half (out ++ [ub (half * 16 + hexVal (c.toNat:Int))]) o
    else hexF l true (hexVal (c.toNat:Int)) out o
def nameB:By→By→Option By
  | [],out=>some out
  | c :: l, out =>
    if (c.toNat:Int) != 35 then nameB l (out ++ [c])
    else match l with
      | a::b::l'=>if hexVal (a.toNat:Int) < 0∨hexVal (b.toNat:Int) < 0 then none
        else if 16 * hexVal (a.toNat:Int) + hexVal (b.toNat:Int) == 0 then none
        else nameB l' (out ++ [ub (16 * hexVal (a.toNat:Int) + hexVal (b.toNat:Int))])
      | _=>none
theorem nameB_plain {c:UInt8} {l out:By} (h:((c.toNat:Int) != 35)=true):nameB (c::l) out=nameB l (out ++ [c]):=by
  cases l with
  | nil=>simp [nameB,h]
  | cons a l=>cases l<;>simp [nameB,h]
theorem nameB_1 {c:UInt8} {out:By} (h:((c.toNat:Int) != 35)=false):nameB [c] out=none:=by simp [nameB,h]
theorem nameB_2 {c a:UInt8} {out:By} (h:((c.toNat:Int) != 35)=false):nameB [c,a] out=none:=by simp [nameB,h]
theorem nameB_3 {c a b:UInt8} {l out:By} (h:((c.toNat:Int) != 35)=false):nameB (c::a::b::l) out=(if hexVal (a.toNat:Int) < 0∨hexVal (b.toNat:Int) < 0 then none
    else if 16 * hexVal (a.toNat:Int) + hexVal (b.toNat:Int) == 0 then none else nameB l (out ++ [ub (16 * hexVal (a.toNat:Int) + hexVal (b.toNat:Int))])):=by
  rw [nameB];simp [h]
end Go.Proofs.YtfkecmlmnhbmoaaGreatDoor
namespace Go.Proofs.YtfkecmlmnhbmoaaGreatDoor
def numScan:By→Int→Int→Int→Option (Int × Int × Int)
  | [],d,p,a=>some (d,p,a)
  | c::l,d,p,a =>
    if isDig (c.toNat:Int) then numScan l (d + 1) p (if p == 0 then a + 1 else a)
    else if (c.toNat:Int) == 46 then numScan l d (p + 1) a
    else none
def numStrip:By→By
  | []=>[]
  | c::l=>if (c.toNat:Int) == 43∨(c.toNat:Int) == 45 then l else c::l
def numOk (l:By):Prop:=∃ d a,numScan (numStrip l) 0 0 0=some (d,1,a)∧1≤d∧d≤60∧a≤14
def numF (pf:By→Nat) (l:By):Int × Int × Nat × Int :=
  match numScan (numStrip l) 0 0 0 with
  | none=>(0,0,0,1)
  | some (d,p,a) =>
    if d == 0∨1 < p then (0,0,0,1)
    else if 14 < a∨60 < d then (0,0,0,2)
    else if p == 1 then (3,0,pf l,0)
    else match Lib.atoiAll l with
      | .ok n=>if 2147483647 < n∨n < -2147483648 then (0,0,0,2) else (2,n,0,0)
      | _=>(0,0,0,2)
end Go.Proofs.YtfkecmlmnhbmoaaGreatDoor
namespace Go.Proofs.YtfkecmlmnhbmoaaGreatDoor
def rfF:By→Nat→Nat→Int→Bool→Nat × Nat × Int × Bool
  | [],M,nd,dp,tr=>(M,nd,dp,tr)
  | c::l,M,nd,dp,tr =>
    if c.toNat=46 then rfF l M nd nd tr
    else if c.toNat=48∧nd=0 then rfF l M nd (dp - 1) tr
    else if nd < 19 then rfF l (M * 10 + (c.toNat - 48)) (nd + 1) dp tr
    else rfF l M (nd + 1) dp (if c.toNat=48 then tr else true)
def stF:By→Nat→Int→Nat × Int
  | [],N,dp=>(N,dp)
  | c::l,N,dp =>
    if c.toNat=46 then stF l N (numD N)
    else if c.toNat=48∧N=0 then stF l N (dp - 1)
    else stF l (10 * N + (c.toNat - 48)) dp
theorem numD_dig {N d:Nat} (hd:d≤9) (h:¬(d=0∧N=0)):numD (10 * N + d)=numD N + 1:=by
  rw [numD_pos (by omega),show (10 * N + d) / 10=N by omega]
theorem scan_cons {c:UInt8} {l:By} {d p a:Int} {r:Int × Int × Int} (h:numScan (c::l) d p a=some r) :
    (48≤c.toNat∧c.toNat≤57∧numScan l (d + 1) p (if p == 0 then a + 1 else a)=some r)∨(c.toNat=46∧numScan l d (p + 1) a=some r):=by
  simp only [numScan] at h
  split at h
  · rename_i hd
    left
    simp [isDig] at hd
    exact ⟨by omega,by omega,h⟩
  · split at h
    · rename_i h46
      right
      simp at h46
      exact ⟨by omega,h⟩
    · cases h
theorem scan_mono:∀ (l:By) (d p a D P A:Int),numScan l d p a=some (D,P,A)→d≤D∧p≤P∧a≤A∧D - d + (P - p)=l.length:=by
  intro l
  induction l with
  | nil=>intro d p a D P A h;simp [numScan] at h;simp;omega
  | cons c l ih =>
    intro d p a D P A h
    simp only [List.length_cons]
    rcases scan_cons h with ⟨_,_,h⟩ | ⟨_,h⟩
    · have:=ih _ _ _ _ _ _ h
      split at this<;>omega
    · have:=ih _ _ _ _ _ _ h
      omega
theorem rf_st:∀ (l:By) (M N nd:Nat) (dp:Int) (tr:Bool) (d p a:Int) (r:Int × Int × Int),numScan l d p a=some r→numD N=nd→(rfF l M nd dp tr).2.1=numD (stF l N dp).1∧(rfF l M nd dp tr).2.2.1=(stF l N dp).2:=by
  intro l
  induction l with
  | nil=>intro M N nd dp tr d p a r _ hn;simp [rfF,stF,hn]
  | cons c l ih =>
    intro M N nd dp tr d p a r h hn
    have hN:nd=0↔N=0:=by
      constructor
      · intro e;by_cases h0:N=0
        · exact h0
        · have:=numD_pos1 h0;omega
      · intro e;rw [←hn,e,numD_zero]
    rcases scan_cons h with ⟨h1,h2,h⟩ | ⟨h1,h⟩
    · simp only [rfF,stF]
      have h46:¬c.toNat=46:=by omega
      rw [if_neg h46,if_neg h46]
      by_cases hz:c.toNat=48∧nd=0
      · rw [if_pos hz,if_pos ⟨hz.1,hN.1 hz.2⟩]
        exact ih _ _ _ _ _ _ _ _ _ h hn
      · have hz2:¬(c.toNat=48∧N=0):=fun x=>hz ⟨x.1,hN.2 x.2⟩
        rw [if_neg hz,if_neg hz2]
        have hd:=numD_dig (N:=N) (d:=c.toNat - 48) (by omega) (fun x=>hz ⟨by omega,hN.2 x.2⟩)
        split
        · exact ih _ _ _ _ _ _ _ _ _ h (by rw [hd,hn])
        · exact ih _ _ _ _ _ _ _ _ _ h (by rw [hd,hn])
    · simp only [rfF,stF]
      rw [if_pos h1,if_pos h1,hn]
      exact ih _ _ _ _ _ _ _ _ _ h hn
structure RfI (M nd:Nat) (dp:Int) (tr:Bool) (d p a:Int):Prop where
  nd_d:nd≤d
  lo:nd - dp≤d
  hi:dp≤a
  m:M < 10 ^ min nd 19
  m0:M=0↔nd=0
  t:tr=true→20≤nd
  a0:0≤a
  pd:p=0→a=d
  p0:0≤p
theorem RfI.start:RfI 0 0 0 false 0 0 0:=⟨by simp,by simp,by simp,by simp,by simp,by simp,by simp,by simp,by simp⟩
theorem RfI.zero {M nd:Nat} {dp:Int} {tr:Bool} {d p a:Int} (h:RfI M nd dp tr d p a) (h0:nd=0):RfI M nd (dp - 1) tr (d + 1) p (if p == 0 then a + 1 else a):=by
  obtain ⟨h1,h2,h3,h4,h5,h6,h7,h8,h9⟩:=h
  refine ⟨by omega,by omega,by split<;>omega,h4,h5,h6,by split<;>omega,?_,h9⟩
  intro e;rw [if_pos (by simp [e])];have:=h8 e;omega
theorem RfI.point {M nd:Nat} {dp:Int} {tr:Bool} {d p a:Int} (h:RfI M nd dp tr d p a) (hp:p=0):RfI M nd nd tr d (p + 1) a:=by
  obtain ⟨h1,h2,h3,h4,h5,h6,h7,h8,h9⟩:=h
  refine ⟨h1,by omega,by have:=h8 hp;omega,h4,h5,h6,h7,by omega,by omega⟩
theorem RfI.dig {M nd:Nat} {dp:Int} {tr:Bool} {d p a:Int} (h:RfI M nd dp tr d p a) {e:Nat} (he:e≤9) (h0:¬(e=0∧nd=0)) (h19:nd < 19):RfI (M * 10 + e) (nd + 1) dp tr (d + 1) p (if p == 0 then a + 1 else a):=by
  obtain ⟨h1,h2,h3,h4,h5,h6,h7,h8,h9⟩:=h
  refine ⟨by omega,by omega,by split<;>omega,?_,by omega,fun x=>by have:=h6 x;omega,by split<;>omega,?_,h9⟩
  · rw [Nat.min_eq_left (by omega)] at h4
    rw [Nat.min_eq_left (by omega),Nat.pow_succ];omega
  · intro x;rw [if_pos (by simp [x])];have:=h8 x;omega
theorem RfI.more {M nd:Nat} {dp:Int} {tr tr':Bool} {d p a:Int} (h:RfI M nd dp tr d p a) (h19:¬nd < 19):RfI M (nd + 1) dp tr' (d + 1) p (if p == 0 then a + 1 else a):=by
  obtain ⟨h1,h2,h3,h4,h5,h6,h7,h8,h9⟩:=h
  refine ⟨by omega,by omega,by split<;>omega,?_,by omega,fun x=>by omega,by split<;>omega,?_,h9⟩
  · rw [Nat.min_eq_right (by omega)] at h4 ⊢;exact h4
  · intro x;rw [if_pos (by simp [x])];have:=h8 x;omega
theorem rf_end:∀ (l:By) (M nd:Nat) (dp:Int) (tr:Bool) (d p a D A:Int),numScan l d p a=some (D,1,A)→RfI M nd dp tr d p a→RfI (rfF l M nd dp tr).1 (rfF l M nd dp tr).2.1 (rfF l M nd dp tr).2.2.1 (rfF l M nd dp tr).2.2.2 D 1 A:=by
  intro l
  induction l with
  | nil=>intro M nd dp tr d p a D A h hi;simp [numScan] at h;obtain ⟨rfl,rfl,rfl⟩:=h;exact hi
  | cons c l ih =>
    intro M nd dp tr d p a D A h hi
    have hm:=scan_mono _ _ _ _ _ _ _ h
    rcases scan_cons h with ⟨h1,h2,h⟩ | ⟨h1,h⟩
    · have h46:¬c.toNat=46:=by omega
      simp only [rfF]
      rw [if_neg h46]
      split
      · rename_i hz;exact ih _ _ _ _ _ _ _ _ _ h (hi.zero hz.2)
      · rename_i hz
        split
        · rename_i h19;exact ih _ _ _ _ _ _ _ _ _ h (hi.dig (by omega) (fun x=>hz ⟨by omega,x.2⟩) h19)
        · rename_i h19;exact ih _ _ _ _ _ _ _ _ _ h (hi.more h19)
    · simp only [rfF]
      rw [if_pos h1]
      have hm2:=scan_mono _ _ _ _ _ _ _ h
      exact ih _ _ _ _ _ _ _ _ _ h (hi.point (by have:=hi.p0;omega))
end Go.Proofs.YtfkecmlmnhbmoaaGreatDoor
namespace Go.Proofs.YtfkecmlmnhbmoaaGreatDoor
inductive PV where
  | null | bool (n:Int) | int (n:Int) | real (x:Nat) | str (l:By) | name (l:By) | arr (kids:List PV) | dict (keys:List By) (kids:List PV) | ref (n g:Int)
abbrev Rd (α:Type):=Option (α × By × Bool)
def wTrue:By:=[116,114,117,101]
def wFalse:By:=[102,97,108,115,101]
def wNull:By:=[110,117,108,108]
def headIs (l:By) (p:Int→Bool):Bool:=match l with
  | []=>false
  | c::_=>p (c.toNat:Int)
def hasPct (l:By):Bool:=l.any fun c=>(c.toNat:Int) == 37
def refF (pf:By→Nat) (n:Int) (text l:By) (o:Bool):Rd PV :=
  let a:=passM false l o
  let s:=wordT a.1
  let ob:=wordO a.1 a.2
  let g:=numF pf s
  if g.2.2.2 == 1 then some (.int n,l,o || ob)
  else
    let c:=passM false (wordR a.1) ob
    let w:=wordT c.1
    let oc:=wordO c.1 c.2
    if w≠[82]∨g.2.2.2≠0∨g.1≠2∨headIs s isDig=false∨headIs text isDig=false then some (.int n,l,(o || oc) || headIs w (· == 82))
    else if n == 0∨65535 < g.2.1 then none
    else some (.ref n g.2.1,wordR c.1,oc || hasPct (l.take (l.length - (wordR c.1).length)))
def rdNum (pf:By→Nat) (l:By) (o:Bool):Rd PV :=
  let t:=wordT l
  let r:=wordR l
  let o1:=wordO l o
  if t=wTrue then some (.bool 1,r,o1)
  else if t=wFalse then some (.bool 0,r,o1)
  else if t=wNull then some (.null,r,o1)
  else
    let v:=numF pf t
    if v.2.2.2≠0 then none
    else if v.1≠2 then some (.real v.2.2.1,r,o1)
    else refF pf v.2.1 t r o1
def rdArr (f:By→Bool→Rd PV):Nat→By→Bool→List PV→Rd (List PV)
  | 0,_,_,_=>none
  | m + 1,l,o,acc =>
    let a:=passM false l o
    if headIs a.1 (· == 93) then some (acc,a.1.tail,a.2)
    else match f a.1 a.2 with
      | none=>none
      | some (x,l2,o2)=>rdArr f m l2 o2 (acc ++ [x])
def is2 (l:By) (n:Int):Bool:=match l with
  | c::d::_=>(c.toNat:Int) == n && (d.toNat:Int) == n
  | _=>false
def rdDict (f:By→Bool→Rd PV):Nat→By→Bool→List By→List PV→Rd (List By × List PV)
  | 0,_,_,_,_=>none
  | m + 1,l,o,ks,acc =>
    let a:=passM false l o
    if is2 a.1 62 then some ((ks,acc),a.1.tail.tail,a.2)
    else if headIs a.1 (· == 47) then
      match nameB (wordT a.1.tail) [] with
      | none=>none
      | some k =>
        if 35∈k∨k∈ks then none
        else match f (wordR a.1.tail) (wordO a.1.tail a.2) with
          | none=>none
          | some (x,l2,o2)=>rdDict f m l2 o2 (ks ++ [k]) (acc ++ [x])
    else none
def rdV (pf:By→Nat):Nat→By→Bool→Rd PV
  | 0,_,_=>none
  | n + 1,l0,o0 =>
    let a:=passM false l0 o0
    match a.1 with
    | []=>none
    | c :: l =>
      if (c.toNat:Int) == 40 then (litF (c::l) 0 []).map fun r=>(.str r.1,r.2,a.2)
      else if is2 (c::l) 60 then (rdDict (rdV pf n) l.tail.length l.tail a.2 [] []).map fun r=>(.dict r.1.1 r.1.2,r.2)
      else if (c.toNat:Int) == 60 then
        let h:=hexF l false 0 [] a.2
        if h.1 == 0 then some (.str h.2.1,h.2.2.1,h.2.2.2) else none
      else if (c.toNat:Int) == 47 then (nameB (wordT l) []).map fun k=>(.name k,wordR l,wordO l a.2)
      else if (c.toNat:Int) == 91 then (rdArr (rdV pf n) l.length l a.2 []).map fun r=>(.arr r.1,r.2)
      else if isDelim (c.toNat:Int) then none
      else rdNum pf (c::l) a.2
theorem passM_len:∀ (b:Bool) (l:By) (o:Bool),(passM b l o).1.length≤l.length:=by
  intro b l
  induction l generalizing b with
  | nil=>intro o;cases b<;>exact Nat.le_refl _
  | cons c l ih =>
    intro o
    cases b
    all_goals
      simp only [passM]
      repeat' split
      all_goals first
        | exact Nat.le_trans (ih _ _) (by simp)
        | exact Nat.le_refl _
theorem wordR_len (l:By):(wordR l).length≤l.length:=(List.dropWhile_sublist _).length_le
theorem word_split (l:By):wordT l ++ wordR l=l:=List.takeWhile_append_dropWhile
end Go.Proofs.YtfkecmlmnhbmoaaGreatDoor
