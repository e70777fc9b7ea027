/- FnParse: the texts F9 G9 of the workbench, laid together. -/
import Derived.Test.YtfkecmlmnhbmoaaGreatDoorProg
import Derived.WalkKit
import Derived.WalkLawsBesides
import Derived.WalkSpells
import Derived.BigQuiet
import Derived.BigRegion
import Derived.Deep.QuietTactic
import Derived.Deep.RegionHeld3
import Derived.Deep.LoopGhost
import Derived.StillTailTactics
import Derived.Lib.Hide
import Derived.Laws.EntriesVeiled
import Derived.Test.YtfkecmlmnhbmoaaGreatDoorZ20
import Derived.Test.YtfkecmlmnhbmoaaGreatDoorZ22
set_option linter.unusedVariables false
set_option linter.unusedSimpArgs false
namespace Go.Proofs.YtfkecmlmnhbmoaaGreatDoor
open Go Go.RowKit
theorem DecN.heap {w w':World} {b N:Nat} {dp:Int} {neg tr:Bool} (h:DecN w b N dp neg tr) (e:w'.heap[b]?=w.heap[b]?):DecN w' b N dp neg tr:=by
  obtain ⟨h1,A,h3,h4,h5⟩:=h
  exact ⟨h1,A,h3.of_heap e,h4,h5⟩
theorem DecN.grown {w w':World} {b N:Nat} {dp:Int} {neg tr:Bool} {r:Option Nat} (h:DecN w b N dp neg tr) (hg:w.grownBy w' r) (hr:r≠some b):DecN w' b N dp neg tr:=by
  obtain ⟨h1,A,h3,h4,h5⟩:=h
  exact ⟨h1,A,h3.grown hg hr,h4,h5⟩
set_option maxRecDepth 100000 in
set_option maxHeartbeats 40000000 in
theorem shl_any (w:World) (b N:Nat) (dp:Int) (neg tr:Bool) (k:Nat) (hk1:1≤k) (hk2:k≤60) (hLc:LcAt w k) (hD:DecN w b N dp neg tr) (hnd:numD N + k≤799) (hN:N≠0) (hdp1:-100000≤dp) (hdp2:dp≤100000) :
    Calls Tryz.prog 123 #[.pointer (some ⟨b,0,none⟩),.int .i64 k] w fun e w'=>e=.returned (.tuple #[])∧DecN w' b (lsN k N) (lsP k N dp) neg tr∧w.grownBy w' (some b):=by
  obtain ⟨h800,A,hD,hds,hdv⟩:=hD
  obtain ⟨nd,hnn⟩:∃ nd,nd=numD N:=⟨_,rfl⟩
  rw [←hnn] at hD hds hdv hnd h800
  have hn1:1≤nd:=by have:=numD_pos1 hN;omega
  have hc:=(lsh_at w b A nd dp neg tr k hk1 hk2 hLc hD hds hnd hn1 (by rw [hdv];exact hN) (by rw [hdv];exact hnn.symm) hdp1 hdp2)
  rw [hdv] at hc
  obtain ⟨c0,c1,c2,c3,cf⟩:=hD.cells
  have Hc:=Lib.hid hc
  clear hD hds hdv hc hnn hLc
  generalize lsN k N=R1 at Hc ⊢
  generalize lsP k N dp=R2 at Hc ⊢
  go_enter Tryz.func123,Tryz.ntmps123
  go_wp2_with fail
  go_loopg [1] 0 (fun g t1 wr=>t1=.int .i64 k∧w=wr)
  case atStart=>exact ⟨rfl,rfl⟩
  case round =>
    obtain ⟨rfl,rfl⟩:=hrel
    go_wp2_with fail
    refine Hc.out.mono ?_
    rintro e w' ⟨rfl,hD,hG⟩
    have HD:=Lib.hid hD;clear hD
    have HG:=Lib.hid hG;clear hG
    go_wp2_with fail
    go_end0
    exact ⟨rfl,HD.out,HG.out⟩
set_option maxRecDepth 100000 in
set_option maxHeartbeats 40000000 in
theorem shr_any (w:World) (b N:Nat) (dp:Int) (neg tr:Bool) (k:Nat) (hk1:1≤k) (hk2:k≤60) (hD:DecN w b N dp neg tr) (hnd:numD N + k≤799) (hN:N≠0) (hdp1:-100000≤dp) (hdp2:dp≤100000) :
    Calls Tryz.prog 123 #[.pointer (some ⟨b,0,none⟩),.int .i64 (-(k:Int))] w fun e w'=>e=.returned (.tuple #[])∧DecN w' b (rsN k N) (rsP k N dp) neg tr∧w.grownBy w' (some b):=by
  obtain ⟨h800,A,hD,hds,hdv⟩:=hD
  obtain ⟨nd,hnn⟩:∃ nd,nd=numD N:=⟨_,rfl⟩
  rw [←hnn] at hD hds hdv hnd h800
  have hn1:1≤nd:=by have:=numD_pos1 hN;omega
  have hc:=(rsh_at w b A nd dp neg tr k hk1 hk2 hD hds hnd hn1 (by rw [hdv];exact hN) (by rw [hdv];exact hnn.symm) hdp1 hdp2)
  rw [hdv] at hc
  obtain ⟨c0,c1,c2,c3,cf⟩:=hD.cells
  have Hc:=Lib.hid hc
  clear hD hds hdv hc hnn
  generalize rsN k N=R1 at Hc ⊢
  generalize rsP k N dp=R2 at Hc ⊢
  obtain ⟨z,hz⟩:∃ z:Int,z=-(k:Int):=⟨_,rfl⟩
  have hz1:z < 0:=by omega
  have hz2:-60≤z:=by omega
  have hz3:-z=(k:Int):=by omega
  rw [←hz]
  clear hz
  go_enter Tryz.func123,Tryz.ntmps123
  go_wp2_with fail
  go_loopg [1] 0 (fun g t1 wr=>t1=.int .i64 z∧w=wr)
  case atStart=>exact ⟨rfl,rfl⟩
  case round =>
    obtain ⟨rfl,rfl⟩:=hrel
    go_wp2_with fail
    refine Hc.out.mono ?_
    rintro e w' ⟨rfl,hD,hG⟩
    have HD:=Lib.hid hD;clear hD
    have HG:=Lib.hid hG;clear hG
    go_wp2_with fail
    go_end0
    exact ⟨rfl,HD.out,HG.out⟩
def pdN (N r:Nat):Nat:=if r≤numD N then N / 10 ^ (numD N - r) else N * 10 ^ (r - numD N)
theorem pd_eq {A:By} {N r:Nat} (hl:numD N≤A.length) (hd:isDs (A.take (numD N))) (hv:dv (A.take (numD N))=N):pd A (numD N) r=pdN N r:=by
  unfold pdN
  by_cases h:r≤numD N
  · rw [if_pos h]
    have h1:=pd_add hl hd r (numD N - r)
    rw [show r + (numD N - r)=numD N by omega,pd_nd,hv] at h1
    exact (Nat.div_eq_of_lt_le (by rw [Nat.mul_comm];exact h1.1) (by rw [Nat.mul_comm];exact h1.2)).symm
  · rw [if_neg h]
    unfold pd
    rw [if_neg h,hv]
theorem pdN_zero (N:Nat):pdN N 0=0:=by
  unfold pdN
  rw [if_pos (Nat.zero_le _)]
  exact Nat.div_eq_of_lt (by simpa using numD_lt N)
def ruB (N r:Nat) (tr:Bool):Bool:=decide (r < numD N) && (if pdN N (r + 1) % 10=5∧r + 1=numD N then tr || decide (pdN N r % 2=1) else decide (5≤pdN N (r + 1) % 10))
theorem ruB_ge {N r:Nat} {tr:Bool} (h:¬r < numD N):ruB N r tr=false:=by unfold ruB;simp [h]
theorem pdN_digit {A:By} {N r:Nat} (hl:numD N≤A.length) (hd:isDs (A.take (numD N))) (hv:dv (A.take (numD N))=N) (hr:r < numD N):pdN N (r + 1)=10 * pdN N r + ((A.getD r 0).toNat - 48)∧48≤(A.getD r 0).toNat∧(A.getD r 0).toNat≤57:=by
  rw [←pd_eq hl hd hv,←pd_eq hl hd hv]
  exact ⟨pd_lt hr hl,isDs_at hd hr hl⟩
set_option maxRecDepth 100000 in
set_option maxHeartbeats 40000000 in
theorem sru_any (w:World) (b N:Nat) (dp:Int) (neg tr:Bool) (hD:DecN w b N dp neg tr) (r:Nat) (hr:r≤100000) :
    Calls Tryz.prog 174 #[.pointer (some ⟨b,0,none⟩),.int .i64 r] w fun e w'=>e=.returned (.bool (ruB N r tr))∧∃ m,w'=w.drewN m:=by
  obtain ⟨h800,A,hD,hds,hdv⟩:=hD
  generalize hR:ruB N r tr=R
  obtain ⟨c0,c1,c2,c3,cf⟩:=hD.cells
  obtain ⟨nd,hnn⟩:∃ nd,nd=numD N:=⟨_,rfl⟩
  rw [←hnn] at c0 h800
  have HR:=Lib.hid hR;clear hR
  by_cases hlt:r < nd
  · have hd1:=pdN_digit (r:=r) (by have:=hD.1;omega) hds hdv (by omega)
    obtain ⟨c,hc,cd⟩:=hD.digE (i:=r) (by omega)
    rw [hc] at hd1
    obtain ⟨hd1,hc1,hc2⟩:=hd1
    have hmd:pdN N (r + 1) % 10=c.toNat - 48:=by omega
    have hn0:¬((r:Int) < 0):=by omega
    by_cases h5:c.toNat=53∧r + 1=nd
    · obtain ⟨h5,h6⟩:=h5
      rw [h5] at cd
      have hR2:R=(tr || decide (pdN N r % 2=1)):=by rw [←HR.out];unfold ruB;rw [if_pos ⟨by omega,by omega⟩,decide_eq_true (by omega:r < numD N)];rfl
      have hb6:(((r:Int) + 1) == (nd:Int))=true:=by simp;omega
      have HR2:=Lib.hid hR2;clear hR2
      cases tr
      · cases r with
        | zero =>
          have HD:=Lib.hid hD;clear hD
          clear hmd hd1 hc HR h6 hnn
          go_enter Tryz.func174,Tryz.ntmps174
          go_wp2_with fail
          go_ret
          rw [HR2.out]
          exact ⟨by simp [pdN_zero],0,rfl⟩
        | succ q =>
          have hd2:=pdN_digit (r:=q) (by have:=hD.1;omega) hds hdv (by omega)
          obtain ⟨c9,hc9,cd9⟩:=hD.digE (i:=q) (by omega)
          rw [hc9] at hd2
          obtain ⟨hd2,hc91,hc92⟩:=hd2
          have hR3:R=decide ((c9.toNat - 48) % 2=1):=by rw [HR2.out,Bool.false_or,hd2];congr 1;simp;omega
          obtain ⟨d9,hd9⟩:∃ d9,d9=c9.toNat - 48:=⟨_,rfl⟩
          have hd9i:(c9.toNat:Int) - 48=(d9:Int):=by omega
          rw [←hd9] at hR3
          have hd99:d9≤9:=by omega
          have HD:=Lib.hid hD;clear hD
          have HR3:=Lib.hid hR3;clear hR3
          clear hmd hd1 hd2 hc HR h6 hnn hd9 hc9
          by_cases hodd:d9 % 2=1
          · have ho:(((d9:Int) % 2) != 0)=true:=by simp;omega
            have Hodd:=Lib.hid hodd
            clear hodd
            go_enter Tryz.func174,Tryz.ntmps174
            go_wp2_with fail
            go_ret
            rw [HR3.out]
            exact ⟨by simp [Hodd.out],0,rfl⟩
          · have ho:(((d9:Int) % 2) != 0)=false:=by simp;omega
            have Hodd:=Lib.hid hodd
            clear hodd
            go_enter Tryz.func174,Tryz.ntmps174
            go_wp2_with fail
            go_ret
            rw [HR3.out]
            exact ⟨by simp [Hodd.out],0,rfl⟩
      · have HD:=Lib.hid hD;clear hD
        clear hmd hd1 hc HR h6 hnn
        go_enter Tryz.func174,Tryz.ntmps174
        go_wp2_with fail
        go_ret
        rw [HR2.out]
        exact ⟨by simp,0,rfl⟩
    · have hR2:R=decide (53≤c.toNat):=by
        rw [←HR.out];unfold ruB
        rw [if_neg (by intro x;exact h5 ⟨by omega,by omega⟩),decide_eq_true (by omega:r < numD N),hmd,Bool.true_and]
        congr 1;simp;omega
      have HR2:=Lib.hid hR2;clear hR2
      have HD:=Lib.hid hD;clear hD
      clear hmd hd1 hc HR
      by_cases h53:c.toNat=53
      · have hb6:(((r:Int) + 1) == (nd:Int))=false:=by simp;omega
        rw [h53] at cd
        clear h5 hnn
        have H53:=Lib.hid h53
        clear h53 hc1 hc2
        go_enter Tryz.func174,Tryz.ntmps174
        go_wp2_with fail
        go_ret
        rw [HR2.out]
        exact ⟨by rw [H53.out];rfl,0,rfl⟩
      · have hb5:((c.toNat:Int) == 53)=false:=by simp;omega
        clear h5 hnn
        have H53:=Lib.hid h53
        clear h53
        by_cases h54:53≤c.toNat
        all_goals
          go_enter Tryz.func174,Tryz.ntmps174
          go_wp2_with fail
          go_ret
          rw [HR2.out]
          exact ⟨by simp [h54];omega,0,rfl⟩
  · have hR2:R=false:=by rw [←HR.out];exact ruB_ge (by omega)
    have hn0:¬((r:Int) < 0):=by omega
    have HR2:=Lib.hid hR2;clear hR2
    have HD:=Lib.hid hD;clear hD
    clear HR hnn
    go_enter Tryz.func174,Tryz.ntmps174
    go_wp2_with fail
    go_ret
    rw [HR2.out]
    exact ⟨rfl,0,rfl⟩
def rintN (N:Nat) (dp:Nat) (tr:Bool):Nat:=pdN N dp + if ruB N dp tr then 1 else 0
theorem pdN_small {N r:Nat} : pdN N r < 10 ^ r:=by
  unfold pdN
  have h:=numD_lt N
  by_cases hr:r≤numD N
  · rw [if_pos hr,Nat.div_lt_iff_lt_mul (pow10_pos _),←Nat.pow_add,show r + (numD N - r)=numD N by omega];exact h
  · rw [if_neg hr]
    calc N * 10 ^ (r - numD N) < 10 ^ numD N * 10 ^ (r - numD N):=Nat.mul_lt_mul_of_pos_right h (pow10_pos _)
      _=10 ^ r:=by rw [←Nat.pow_add];congr 1;omega
theorem pdN_ge {N r:Nat} (h:numD N≤r):pdN N (r + 1)=10 * pdN N r:=by
  unfold pdN
  rw [if_neg (by omega)]
  by_cases e:r=numD N
  · subst e;simp;omega
  · rw [if_neg (by omega),show r + 1 - numD N=(r - numD N) + 1 by omega,Nat.pow_succ,←Nat.mul_assoc];omega
theorem ten17 {r:Nat} (h:r≤17):10 ^ r≤100000000000000000:=Nat.le_trans (pow10_le h) (by decide)
set_option maxRecDepth 100000 in
set_option maxHeartbeats 40000000 in
theorem rint_any (w:World) (b N:Nat) (dpn:Nat) (neg tr:Bool) (hdp:dpn≤17) (hD:DecN w b N dpn neg tr) :
    Calls Tryz.prog 201 #[.pointer (some ⟨b,0,none⟩)] w fun e w'=>e=.returned (.int .u64 (rintN N dpn tr))∧∃ m,w'=w.drewN m:=by
  have HDN:=Lib.hid hD
  obtain ⟨h800,A,hD,hds,hdv⟩:=hD
  generalize hR:rintN N dpn tr=R
  obtain ⟨c0,c1,c2,c3,cf⟩:=hD.cells
  have hlen:numD N≤A.length:=by have:=hD.1;omega
  have HD:=Lib.hid hD;clear hD
  have HR:=Lib.hid hR;clear hR
  have Hlen:=Lib.hid hlen;clear hlen
  have Hds:=Lib.hid hds;clear hds
  have Hdv:=Lib.hid hdv;clear hdv
  obtain ⟨nd,hnn⟩:∃ nd,nd=numD N:=⟨_,rfl⟩
  rw [←hnn] at c0 h800
  have Hnn:=Lib.hid hnn;clear hnn
  go_enter Tryz.func201,Tryz.ntmps201
  go_wp2_with fail
  go_loopg [3,4] dpn (fun g t3 t4 wr=>∃ i n:Nat,t3=.int .i64 i∧t4=.int .u64 n∧g=dpn - i∧i≤dpn∧n=pdN N i∧(i≤nd∨i=0)∧w=wr)
  case atStart=>exact ⟨0,0,rfl,rfl,rfl,by omega,(pdN_zero N).symm,.inr rfl,rfl⟩
  case round =>
    obtain ⟨i,n,rfl,rfl,hg,hi,hn,hin,rfl⟩:=hrel
    have hn17:n≤100000000000000000:=by rw [hn];have:=pdN_small (N:=N) (r:=i);have:=ten17 (r:=i) (by omega);omega
    have Hg:=Lib.hid hg;clear hg
    have Hn:=Lib.hid hn;clear hn
    by_cases h1:i < dpn∧i < nd
    · obtain ⟨h1,h2⟩:=h1
      obtain ⟨c,hc,cd⟩:=HD.out.digE (i:=i) (by omega)
      have hd1:=pdN_digit (r:=i) Hlen.out Hds.out Hdv.out (by have:=Hnn.out;omega)
      rw [hc] at hd1
      obtain ⟨hd1,hc1,hc2⟩:=hd1
      have Hd1:=Lib.hid hd1;clear hd1
      have Hc:=Lib.hid hc;clear hc
      clear hin
      go_wp2_with fail
      go_roundg (dpn - (i + 1))
      case measure=>rw [Hg.out];omega
      case rel=>exact ⟨i + 1,n * 10 + (c.toNat - 48),by go_num,ret_num (by omega),rfl,by omega,by rw [Hd1.out,←Hn.out];omega,.inl (by omega),rfl⟩
    · have hin2:i=dpn∨nd≤i:=by omega
      have Hin2:=Lib.hid hin2;clear hin2
      by_cases h2:i < dpn
      · have h3:¬i < nd:=by omega
        clear h1 hin
        go_wp2_with fail
        have Hg9:=Lib.hid (show dpn - i=dpn - i from rfl)
        go_loopg [3,4] (dpn - i) (fun g t3 t4 wr=>∃ i n:Nat,t3=.int .i64 i∧t4=.int .u64 n∧g=dpn - i∧i≤dpn∧n=pdN N i∧(i=dpn∨nd≤i)∧w=wr)
        case atStart=>exact ⟨i,n,rfl,rfl,Hg9.out,hi,Hn.out,Hin2.out,rfl⟩
        case round =>
          clear Hg9 Hg Hn Hin2 hn17 hi
          obtain ⟨i,n,rfl,rfl,hg,hi,hn,hin,rfl⟩:=hrel
          have hn17:n≤100000000000000000:=by rw [hn];have:=pdN_small (N:=N) (r:=i);have:=ten17 (r:=i) (by omega);omega
          have Hg:=Lib.hid hg;clear hg
          have Hn:=Lib.hid hn;clear hn
          by_cases h9:i < dpn
          · have hin2:nd≤i:=by omega
            clear hin
            go_wp2_with fail
            go_roundg (dpn - (i + 1))
            case measure=>rw [Hg.out];omega
            case rel=>exact ⟨i + 1,n * 10,by go_num,by go_num,rfl,by omega,by rw [pdN_ge (by have:=Hnn.out;omega),←Hn.out];omega,.inr (by omega),rfl⟩
          · obtain rfl:i=dpn:=by omega
            clear hin
            go_wp2_with fail
            refine (sru_any _ b N i neg tr (by exact HDN.out) i (by omega)).mono ?_
            rintro e w1 ⟨rfl,m,hw⟩
            have Hw:=Lib.hid hw;clear hw
            have hR1:=HR.out
            unfold rintN at hR1
            rcases Bool.eq_false_or_eq_true (ruB N i tr) with hru | hru
            all_goals
              rw [hru] at hR1 ⊢
              have HR1:=Lib.hid hR1;clear hR1
              go_wp2_with fail
              go_ret
              have e:R=_:=HR1.out.symm
              rw [e,Hn.out]
              exact ⟨by simp,m,Hw.out⟩
      · clear h1 hin
        go_wp2_with fail
        have Hg9:=Lib.hid (show dpn - i=dpn - i from rfl)
        go_loopg [3,4] (dpn - i) (fun g t3 t4 wr=>∃ i n:Nat,t3=.int .i64 i∧t4=.int .u64 n∧g=dpn - i∧i≤dpn∧n=pdN N i∧(i=dpn∨nd≤i)∧w=wr)
        case atStart=>exact ⟨i,n,rfl,rfl,Hg9.out,hi,Hn.out,Hin2.out,rfl⟩
        case round =>
          clear Hg9 Hg Hn Hin2 hn17 hi
          obtain ⟨i,n,rfl,rfl,hg,hi,hn,hin,rfl⟩:=hrel
          have hn17:n≤100000000000000000:=by rw [hn];have:=pdN_small (N:=N) (r:=i);have:=ten17 (r:=i) (by omega);omega
          have Hg:=Lib.hid hg;clear hg
          have Hn:=Lib.hid hn;clear hn
          by_cases h9:i < dpn
          · have hin2:nd≤i:=by omega
            clear hin
            go_wp2_with fail
            go_roundg (dpn - (i + 1))
            case measure=>rw [Hg.out];omega
            case rel=>exact ⟨i + 1,n * 10,by go_num,by go_num,rfl,by omega,by rw [pdN_ge (by have:=Hnn.out;omega),←Hn.out];omega,.inr (by omega),rfl⟩
          · obtain rfl:i=dpn:=by omega
            clear hin
            go_wp2_with fail
            refine (sru_any _ b N i neg tr (by exact HDN.out) i (by omega)).mono ?_
            rintro e w1 ⟨rfl,m,hw⟩
            have Hw:=Lib.hid hw;clear hw
            have hR1:=HR.out
            unfold rintN at hR1
            rcases Bool.eq_false_or_eq_true (ruB N i tr) with hru | hru
            all_goals
              rw [hru] at hR1 ⊢
              have HR1:=Lib.hid hR1;clear hR1
              go_wp2_with fail
              go_ret
              have e:R=_:=HR1.out.symm
              rw [e,Hn.out]
              exact ⟨by simp,m,Hw.out⟩
end Go.Proofs.YtfkecmlmnhbmoaaGreatDoor
namespace Go.Proofs.YtfkecmlmnhbmoaaGreatDoor
open Go Go.RowKit
theorem BldAt.below {w w':World} {b B:Nat} {l:By} (h:BldAt w b B l) (hb:Below w.heap.size w w'):BldAt w' b B l:=h.keep (gr_of_below hb) (fun k hk=>by cases hk)
theorem BldAt.iter {w:World} {b B:Nat} {l:By} (h:BldAt w b B l) {k:Nat} {s:ByteArray} {pos pos':Nat} (hk:w.heap[k]?=some (.stringIter s pos)):BldAt (w.iterAt k s pos') b B l:=by
  obtain ⟨h1,h2,p,v,h3,h4,h5⟩:=h
  have hbk:b≠k:=by intro e;subst e;rw [h4] at hk;simp at hk
  refine ⟨h1,by rw [Lib.iterAt_size];exact h2,p,v,h3,(Lib.iterAt_other w k b s pos' hbk).trans h4,?_⟩
  obtain ⟨q1,q2⟩:=h5
  refine ⟨q1,?_⟩
  rcases q2 with q2 | ⟨g,cap,cur,hv,hb,hg,rest⟩
  · exact .inl q2
  · have hgk:g≠k:=by intro e;subst e;rw [hg] at hk;simp at hk
    exact .inr ⟨g,cap,cur,hv,hb,(Lib.iterAt_other w k g s pos' hgk).trans hg,rest⟩
theorem hexws {c:UInt8} (h:hexOkc c):decide (upB c∈([32,9,10,12,13]:By))=isWhite (c.toNat:Int):=by
  have hv:=upB_val c
  have hr:=bi_range c
  have key:upB c∈([32,9,10,12,13]:By)↔((upB c).toNat:Int)=32∨((upB c).toNat:Int)=9∨((upB c).toNat:Int)=10∨((upB c).toNat:Int)=12∨((upB c).toNat:Int)=13:=by
    simp only [List.mem_cons,List.not_mem_nil,or_false,←UInt8.toNat_inj]
    have e1:(32:UInt8).toNat=32:=rfl
    have e2:(9:UInt8).toNat=9:=rfl
    have e3:(10:UInt8).toNat=10:=rfl
    have e4:(12:UInt8).toNat=12:=rfl
    have e5:(13:UInt8).toNat=13:=rfl
    rw [e1,e2,e3,e4,e5]
    omega
  rcases h with ⟨h1,h2⟩ | ⟨h1,h2⟩
  · rw [h1]
    have:=white_range h1
    rw [decide_eq_true_eq,key]
    split at hv<;>omega
  · rw [h1]
    have h3:=(hex_up c h2).2.2.2
    rw [decide_eq_false_iff_not,key]
    omega
def hexCs:By:=[65,66,67,68,69,70,49,50,51,52,53,54,55,56,57,48]
theorem hexCs_mem {d:UInt8} (h:48≤(d.toNat:Int)∧(d.toNat:Int)≤57∨65≤(d.toNat:Int)∧(d.toNat:Int)≤70):d∈hexCs:=by
  have:d.toNat=48∨d.toNat=49∨d.toNat=50∨d.toNat=51∨d.toNat=52∨d.toNat=53∨d.toNat=54∨d.toNat=55∨d.toNat=56∨d.toNat=57∨d.toNat=65∨d.toNat=66∨d.toNat=67∨d.toNat=68∨d.toNat=69∨d.toNat=70:=by omega
  simp only [hexCs,List.mem_cons,List.not_mem_nil,or_false,←UInt8.toNat_inj]
  rcases this with e | e | e | e | e | e | e | e | e | e | e | e | e | e | e | e<;>rw [e]<;>decide
def HxPost (h:By) (w w':World) (e:Ending):Prop:=(∃ pb,e=.returned (.tuple #[.pointer (some ⟨pb,0,none⟩),.bool true])∧LineAt w' pb (hexS h 0 [])∧w.heap.size≤pb)∧Below w.heap.size w w'
set_option maxRecDepth 100000 in
set_option maxHeartbeats 40000000 in
theorem hexstr_any (h:By) (hok:∀ c∈h,hexOkc c) (hl:h.length≤100000000) (w:World):Calls Tryz.prog 193 #[.string (bs h)] w fun e w'=>HxPost h w w' e:=by
  have HOK:=Lib.hid hok
  clear hok
  have hsz:=bs_size h
  cases h with
  | nil =>
    go_enter Tryz.func193,Tryz.ntmps193
    go_wp2_with fail
    go_ret2
    exact ⟨⟨w.heap.size,rfl,heap_alloc_new w _,Nat.le_refl _⟩,(Below.refl _ _).alloc (Nat.le_refl _) _⟩
  | cons c0 h0 =>
    obtain ⟨h,hh⟩:∃ h,h=c0::h0:=⟨_,rfl⟩
    have hpos:0 < h.length:=by rw [hh];simp
    rw [←hh] at HOK hl hsz ⊢
    clear hh
    obtain ⟨z,hz⟩:∃ z,z=bs h:=⟨_,rfl⟩
    have hne:((z.size:Int) == 0)=false:=by rw [hz,hsz];simp only [beq_eq_false_iff_ne];omega
    rw [←hz]
    have Hz:=Lib.hid hz
    have HB0:=Lib.hid (heap_alloc_new w (.cells #[.pointer none,.slice none 0 0] 296 (0,0)))
    clear hz hsz
    go_enter Tryz.func193,Tryz.ntmps193
    go_wp2_with fail
    rw [Hz.out]
    refine (upper_any h (by omega) _).mono ?_
    rintro e w2 ⟨rfl,hb2⟩
    have hB2:=(hb2.block w.heap.size (by simp)).trans HB0.out
    have hb02:Below w.heap.size w w2:=((Below.refl w.heap.size w).alloc (Nat.le_refl _) (.cells #[.pointer none,.slice none 0 0] 296 (0,0))).trans (hb2.mono (by simp))
    have hs2:w.heap.size + 1≤w2.heap.size:=by have:=hb2.size;simpa using this
    obtain ⟨u,hu⟩:∃ u,u=bs (h.map upB):=⟨_,rfl⟩
    rw [←hu]
    have Hu:=Lib.hid hu
    have hus:u.size=h.length:=by rw [hu,bs_size];simp
    clear hu hb2 HB0
    have HB2:=Lib.hid hB2
    have Hb02:=Lib.hid hb02
    clear hB2 hb02
    go_wp2_with fail
    go_loopg [6] h.length (fun g t6 wr=>∃ (pre rest out:By) (i:Nat),g=rest.length∧h=pre ++ rest∧t6=.int .i64 i∧i≤pre.length∧out.length≤2 * pre.length∧hexS rest i out=hexS h 0 []∧wr.heap[w2.heap.size]?=some (.stringIter u pre.length)∧BldAt wr w.heap.size (w2.heap.size + 1) out∧Below w.heap.size w wr)
    case atStart =>
      refine ⟨[],h,[],0,rfl,rfl,rfl,Nat.le_refl _,Nat.le_refl _,rfl,World.iter_heap w2 u 0,⟨by omega,by simp [World.iter],.pointer none,.slice none 0 0,.inl rfl,?_,OwnB.nil _ _⟩,Hb02.out.alloc (by omega) _⟩
      exact (Below.heap_alloc w2 _ _ (by omega)).trans HB2.out
    case round =>
      obtain ⟨pre,rest,out,i,hg,hp,rfl,hi,hol,hx,hit,hB,hbw⟩:=hrel
      cases rest with
      | nil =>
        have hn2:∀ ty,(Instr.next (.pointer (some ⟨w2.heap.size,0,none⟩)) true ty).run Tryz.prog wr=_:=fun ty=>Lib.run_next_end_at wr w2.heap.size u pre.length ty hit (by rw [hus,hp];simp)
        have hpl:pre.length=h.length:=by rw [hp];simp
        have HX:=Lib.hid hx
        have HB:=Lib.hid hB
        have Hbw:=Lib.hid hbw
        have hi2:i < 1000000000:=by omega
        have hol2:out.length≤200000000:=by omega
        clear hp hx hB hg hus hi hol hpl hbw hit
        by_cases hodd:i % 2 > 0
        · have hr1:0 < (i:Int).tmod 2:=by rw [Int.tmod_eq_emod_of_nonneg (Int.natCast_nonneg i)];omega
          go_wp2_with fail
          refine (wstr_any wr w.heap.size _ out [48] HB.out (by simp;omega)).mono ?_
          rintro e w3 ⟨⟨k,rfl⟩,hB3,hK3⟩
          go_wp2_with fail
          refine (wtoS_any w3 w.heap.size _ _ hB3).mono ?_
          rintro e w4 ⟨rfl,hb4⟩
          have hbb:=(Hbw.out.trans hK3.1).trans hb4
          go_wp2_with fail
          go_ret2
          refine ⟨⟨w4.heap.size,rfl,?_,hbb.size⟩,hbb.alloc hbb.size _⟩
          have:=HX.out
          simp only [hexS,if_pos hodd] at this
          rw [←this]
          exact heap_alloc_new w4 _
        · have hr1:¬0 < (i:Int).tmod 2:=by rw [Int.tmod_eq_emod_of_nonneg (Int.natCast_nonneg i)];omega
          go_wp2_with fail
          refine (wtoS_any wr w.heap.size _ _ HB.out).mono ?_
          rintro e w4 ⟨rfl,hb4⟩
          have hbb:=Hbw.out.trans hb4
          go_wp2_with fail
          go_ret2
          refine ⟨⟨w4.heap.size,rfl,?_,hbb.size⟩,hbb.alloc hbb.size _⟩
          have:=HX.out
          simp only [hexS,if_neg hodd] at this
          rw [←this]
          exact heap_alloc_new w4 _
      | cons c rest =>
        have hokc:=HOK.out c (by rw [hp];simp)
        have hws:=hexws hokc
        have hlt2:pre.length < u.size:=by rw [hus,hp];simp
        have hn2:∀ ty,(Instr.next (.pointer (some ⟨w2.heap.size,0,none⟩)) true ty).run Tryz.prog wr=_:=fun ty=>Lib.run_next_any_at wr w2.heap.size u pre.length ty hit hlt2
        have hup:((upB c).toNat:Int) < 128:=by
          have:=(hexOkc_ne hokc).2
          have hv:=upB_val c
          split at hv<;>omega
        have hdec:Utf8.decode u pre.length=((upB c).toNat,1):=by
          have:=bs_decode (pre.map upB) (upB c) (rest.map upB) hup
          rw [List.length_map] at this
          rw [Hu.out,hp];simpa using this
        rw [hdec] at hn2
        simp only at hn2
        have hB3:=hB.iter hit (pos':=pre.length + 1)
        have hit3:=Lib.iterAt_heap wr w2.heap.size u pre.length (pre.length + 1) hit
        have hbw3:=Lib.below_iterAt hbw (k:=w2.heap.size) (by omega) u (pre.length + 1)
        obtain ⟨W,hW⟩:∃ W,wr.iterAt w2.heap.size u (pre.length + 1)=W:=⟨_,rfl⟩
        rw [hW] at hn2 hB3 hit3 hbw3
        have hx2:hexS h 0 []=hexS (c::rest) i out:=hx.symm
        have hpl:pre.length < h.length:=by rw [hp];simp
        have hi2:i < 1000000000:=by omega
        have hol2:out.length≤200000000:=by omega
        have hltW:w2.heap.size < W.heap.size:=(Array.getElem?_eq_some_iff.1 hit3).1
        obtain ⟨d,hd⟩:∃ d,d=upB c:=⟨_,rfl⟩
        rw [←hd] at hn2 hup hws
        have Hd:=Lib.hid hd
        have HX:=Lib.hid hx2
        have HB3:=Lib.hid hB3
        have Hit3:=Lib.hid hit3
        have Hbw3:=Lib.hid hbw3
        have Hp:=Lib.hid hp
        have Hg:=Lib.hid hg
        have Hi:=Lib.hid hi
        have Hol:=Lib.hid hol
        clear hd hx hx2 hB3 hit3 hbw3 hp hg hi hol hdec hB hit hbw hpl hW hus
        have hcs1:(⟨#[32,9,10,12,13]⟩:ByteArray)=bs [32,9,10,12,13]:=rfl
        obtain ⟨y,hy⟩:∃ y,y=bs hexCs:=⟨_,rfl⟩
        have hcs2:(⟨#[65,66,67,68,69,70,49,50,51,52,53,54,55,56,57,48]⟩:ByteArray)=y:=by rw [hy];rfl
        have Hy:=Lib.hid hy
        clear hy
        go_wp2_with fail
        refine (has_any [32,9,10,12,13] (by decide) d hup _ hws W).mono ?_
        rintro e w4 ⟨rfl,hb4⟩
        have HB4:=Lib.hid (HB3.out.below hb4)
        have Hit4:=Lib.hid ((hb4.block w2.heap.size hltW).trans Hit3.out)
        have Hbw4:=Lib.hid (Hbw3.out.trans (hb4.mono Hbw3.out.size))
        have hltW4:w2.heap.size < w4.heap.size:=by have:=hb4.size;omega
        clear hb4 HB3 Hit3 Hbw3
        rcases Bool.eq_false_or_eq_true (isWhite (c.toNat:Int)) with hw | hw
        · rw [hw]
          by_cases hodd:i % 2 > 0
          · have hr1:0 < (i:Int).tmod 2:=by rw [Int.tmod_eq_emod_of_nonneg (Int.natCast_nonneg i)];omega
            go_wp2_with fail
            refine (wstr_any w4 w.heap.size _ out [48] HB4.out (by simp;omega)).mono ?_
            rintro e w5 ⟨⟨k,rfl⟩,hB5,hK5⟩
            go_wp2_with fail
            go_roundg rest.length
            case measure=>rw [Hg.out];simp
            case rel =>
              have:=HX.out
              simp only [hexS,hw,if_true,if_pos hodd] at this
              exact ⟨pre ++ [c],rest,out ++ [48],0,rfl,by rw [Hp.out];simp,rfl,Nat.zero_le _,by have:=Hol.out;simp;omega,this.symm,by rw [hK5.2.2.1 w2.heap.size (by omega) (by omega)];simpa using Hit4.out,hB5,Hbw4.out.trans hK5.1⟩
          · have hr1:¬0 < (i:Int).tmod 2:=by rw [Int.tmod_eq_emod_of_nonneg (Int.natCast_nonneg i)];omega
            go_wp2_with fail
            go_roundg rest.length
            case measure=>rw [Hg.out];simp
            case rel =>
              have:=HX.out
              simp only [hexS,hw,if_true,if_neg hodd] at this
              exact ⟨pre ++ [c],rest,out,i,rfl,by rw [Hp.out];simp,rfl,by have:=Hi.out;simp;omega,by have:=Hol.out;simp;omega,this.symm,by simpa using Hit4.out,HB4.out,Hbw4.out⟩
        · rw [hw]
          have hhex:0≤hexVal (c.toNat:Int):=by
            rcases hokc with ⟨h1,_⟩ | ⟨_,h1⟩
            · rw [hw] at h1;exact absurd h1 (by decide)
            · exact h1
          have hmem:d∈hexCs:=by rw [Hd.out];exact hexCs_mem (hex_up c hhex).2.2.2
          have Hmem:=Lib.hid hmem
          have Hhex:=Lib.hid hhex
          clear hmem hhex hokc
          have hcl:∀ x∈hexCs,(x.toNat:Int) < 128:=by decide
          have Hcl:=Lib.hid hcl
          clear hcl
          go_wp2_with fail
          go_loopg [6,9] hexCs.length (fun g2 t6 t9 wi=>t6=.int .i64 i∧t9=.bool false∧∃ pre2 rest2:By,hexCs=pre2 ++ rest2∧rest2.length≤g2∧d∈rest2∧wi.heap[w4.heap.size]?=some (.stringIter y pre2.length)∧wi.heap[w2.heap.size]?=some (.stringIter u (pre.length + 1))∧BldAt wi w.heap.size (w2.heap.size + 1) out∧Below w.heap.size w wi)
          case atStart=>exact ⟨rfl,rfl,[],hexCs,rfl,Nat.le_refl _,Hmem.out,World.iter_heap w4 _ 0,(Below.heap_alloc _ _ _ hltW4).trans Hit4.out,HB4.out.keep (gr_alloc (World.grownBy.refl _ none) _) (fun k hk=>by cases hk),Hbw4.out.alloc Hbw4.out.size _⟩
          case round =>
            obtain ⟨rfl,rfl,pre2,rest2,hsp,hgl,hm2,hi2',hi1,hBi,hbi⟩:=hrel
            cases rest2 with
            | nil=>simp at hm2
            | cons x rest2 =>
              have hx1:(x.toNat:Int) < 128:=Hcl.out x (by rw [hsp];simp)
              have hlt3:pre2.length < y.size:=by rw [Hy.out,bs_size,hsp];simp
              have hn3:∀ ty,(Instr.next (.pointer (some ⟨w4.heap.size,0,none⟩)) true ty).run Tryz.prog wr=_:=fun ty=>Lib.run_next_any_at wr w4.heap.size y pre2.length ty hi2' hlt3
              have hdec:Utf8.decode y pre2.length=(x.toNat,1):=by rw [Hy.out,hsp];exact bs_decode pre2 x rest2 hx1
              rw [hdec] at hn3
              simp only at hn3
              have hi3:=Lib.iterAt_heap wr w4.heap.size y pre2.length (pre2.length + 1) hi2'
              have hi4:=Lib.iterAt_other wr w4.heap.size w2.heap.size y (pre2.length + 1) (by omega)
              have hbi3:=Lib.below_iterAt hbi (k:=w4.heap.size) Hbw4.out.size y (pre2.length + 1)
              have hBi3:=hBi.iter hi2' (pos':=pre2.length + 1)
              rw [hi1] at hi4
              obtain ⟨W3,hW3⟩:∃ W3,wr.iterAt w4.heap.size y (pre2.length + 1)=W3:=⟨_,rfl⟩
              rw [hW3] at hn3 hi3 hi4 hbi3 hBi3
              have Hsp:=Lib.hid hsp
              have Hm2:=Lib.hid hm2
              have HBi3:=Lib.hid hBi3
              have Hi4:=Lib.hid hi4
              have Hi3:=Lib.hid hi3
              have Hbi3:=Lib.hid hbi3
              clear hsp hm2 hdec hi2' hi1 hBi hbi hBi3 hi4 hi3 hbi3 hn2 hW3
              by_cases he:d=x
              · have he2:((d.toNat:Int) == (x.toNat:Int))=true:=by rw [he];simp
                clear he
                go_wp2_with fail
                refine (wrune_any W3 w.heap.size _ out d hup HBi3.out (by omega)).mono ?_
                rintro e w5 ⟨⟨k,rfl⟩,hB5,hK5⟩
                go_wp2_with fail
                go_roundg rest.length
                case measure=>rw [Hg.out];simp
                case rel =>
                  have:=HX.out
                  simp only [hexS,hw,Bool.false_eq_true,if_false,←Hd.out] at this
                  exact ⟨pre ++ [c],rest,out ++ [d],i + 1,rfl,by rw [Hp.out];simp,by simp,by have:=Hi.out;simp;omega,by have:=Hol.out;simp;omega,this.symm,by rw [hK5.2.2.1 w2.heap.size (by omega) (by omega)];simpa using Hi4.out,hB5,Hbi3.out.trans hK5.1⟩
              · have he2:((d.toNat:Int) == (x.toNat:Int))=false:=by
                  simp only [beq_eq_false_iff_ne]
                  intro e
                  exact he (UInt8.toNat_inj.1 (by omega))
                go_wp2_with fail
                go_roundg rest2.length
                case measure=>simp at hgl;omega
                case rel=>exact ⟨rfl,rfl,pre2 ++ [x],rest2,by rw [Hsp.out];simp,Nat.le_refl _,by have:=Hm2.out;simp [he] at this;exact this,by simpa using Hi3.out,Hi4.out,HBi3.out,Hbi3.out⟩
end Go.Proofs.YtfkecmlmnhbmoaaGreatDoor
