/- FnParse: the texts F5 P8 P9 of the workbench, laid together. -/
import Derived.Test.YtfkecmlmnhbmoaaGreatDoorProg
import Derived.WalkKit
import Derived.WalkLawsBesides
import Derived.WalkSpells
import Derived.BigQuiet
import Derived.BigRegion
import Derived.Deep.QuietTactic
import Derived.Deep.RegionHeld3
import Derived.Deep.LoopGhost
import Derived.StillTailTactics
import Derived.Lib.Hide
import Derived.Laws.EntriesVeiled
import Derived.IntWalk
import Derived.Laws.Bits64b
import Derived.Test.YtfkecmlmnhbmoaaGreatDoorZ8
import Derived.Test.YtfkecmlmnhbmoaaGreatDoorZ11
set_option linter.unusedVariables false
set_option linter.unusedSimpArgs false
namespace Go.Proofs.YtfkecmlmnhbmoaaGreatDoor
open Go Go.RowKit
theorem int_pow2 (k:Nat):((2:Int) ^ k)=((2 ^ k:Nat):Int):=by simp
theorem shr_lt {n k:Nat} (h:n < 2 ^ k):(((n:Int) / 2 ^ k) == 0)=true:=by
  rw [int_pow2,←Int.natCast_ediv,Nat.div_eq_of_lt h];rfl
theorem shr_ge {n k:Nat} (h:2 ^ k≤n):(((n:Int) / 2 ^ k) == 0)=false:=by
  have h1:1≤n / 2 ^ k:=(Nat.le_div_iff_mul_le (Nat.pow_pos (by decide))).2 (by omega)
  rw [int_pow2,←Int.natCast_ediv]
  simp only [beq_eq_false_iff_ne,ne_eq]
  omega
theorem and_mask {n M k:Nat} (hM:M=2 ^ k - 1) (hk:k≤60) (hn:n < 18446744073709551616):bits .and .u64 (n:Int) (M:Int)=((n % 2 ^ k:Nat):Int):=by
  have h60:2 ^ k≤1152921504606846976:=Nat.le_trans (Nat.pow_le_pow_right (by decide) hk) (by decide)
  rw [bits_and_u64_nat n M hn (by omega),hM,Nat.and_two_pow_sub_one_eq_mod]
theorem set_at {Ql A:By} {wq:Nat} (h:Ql.length=wq) (hl:wq < A.length) (c:UInt8):(Ql ++ A.drop wq).set wq c=(Ql ++ [c]) ++ A.drop (wq + 1):=by
  rw [List.set_append_right _ _ (by omega),h,Nat.sub_self,List.drop_eq_getElem_cons hl,List.set_cons_zero]
  simp
theorem dig_of {q:Nat} (h:q≤9):(UInt8.ofNat (q + 48)).toNat=q + 48:=by rw [UInt8.toNat_ofNat'];omega
theorem DecAt.put {w:World} {b:Nat} {A Ql:By} {wq nd:Nat} {dp:Int} {neg tr:Bool} (h:DecAt w b (Ql ++ A.drop wq) nd dp neg tr) (hq:Ql.length=wq) (hl:wq < A.length) (hA:A.length=800) {q:Nat} (h9:q≤9) :
    DecAt (w.setCell ⟨b,wq,none⟩ (.int .u8 ((q:Int) + 48))) b ((Ql ++ [UInt8.ofNat (q + 48)]) ++ A.drop (wq + 1)) nd dp neg tr:=by
  have:=h.setDig (i:=wq) (by omega) (UInt8.ofNat (q + 48))
  rw [set_at hq hl,dig_of h9] at this
  simpa using this
theorem dv_dig {Ql:By} {q:Nat} (h9:q≤9):dv (Ql ++ [UInt8.ofNat (q + 48)])=10 * dv Ql + q:=by rw [dv_snoc,dig_of h9];omega
theorem isDs_dig {Ql:By} {q:Nat} (h:isDs Ql) (h9:q≤9):isDs (Ql ++ [UInt8.ofNat (q + 48)]):=isDs_snoc h (by rw [dig_of h9];omega) (by rw [dig_of h9];omega)
theorem div_step {X k D n q m d:Nat} (h:X=10 * 2 ^ k * D + n) (hq:q=n / 2 ^ k) (hm:m=n % 2 ^ k) (hd:d≤9):10 * X + d=10 * 2 ^ k * (10 * D + q) + (m * 10 + d)∧m * 10 + d < 10 * 2 ^ k:=by
  have hp:0 < 2 ^ k:=Nat.pow_pos (by decide)
  have h1:=Nat.div_add_mod n (2 ^ k)
  have h2:=Nat.mod_lt n hp
  rw [←hq,←hm] at h1
  rw [←hm] at h2
  generalize 2 ^ k=p at *
  refine ⟨?_,by omega⟩
  rw [h,←h1,Nat.mul_add,Nat.mul_add (10 * p)]
  have e1:10 * (10 * p * D)=10 * p * (10 * D):=by rw [Nat.mul_left_comm (10 * p),]
  rw [e1,Nat.mul_assoc 10 p q]
  omega
theorem ret_num {k:IntKind} {a b:Int} (h:a=b):Value.int k a=.int k b:=by rw [h]
set_option maxRecDepth 100000 in
set_option maxHeartbeats 40000000 in
theorem rsh_at (w : World) (b : Nat) (A : By) (nd : Nat) (dp : Int) (neg tr : Bool) (k : Nat) (hk1 : 1 ≤ k) (hk2 : k ≤ 60) (hD : DecAt w b A nd dp neg tr) (hds : isDs (A.take nd)) (hnd : nd + k ≤ 799) (hn1 : 1 ≤ nd) (hN0 : dv (A.take nd) ≠ 0) (hN : numD (dv (A.take nd)) = nd) (hdp1 : -100000 ≤ dp) (hdp2 : dp ≤ 100000) :
    Calls Tryz.prog 173 #[.pointer (some ⟨b,0,none⟩),.int .u64 k] w fun e w'=>e=.returned (.tuple #[])∧DecN w' b (rsN k (dv (A.take nd))) (rsP k (dv (A.take nd)) dp) neg tr∧w.grownBy w' (some b):=by
  have hA800:=hD.1
  generalize hR1:rsN k (dv (A.take nd))=R1
  generalize hR2:rsP k (dv (A.take nd)) dp=R2
  have HR1:=Lib.hid hR1;clear hR1
  have HR2:=Lib.hid hR2;clear hR2
  obtain ⟨c0,c1,c2,c3,cf⟩:=hD.cells
  have hlen:nd≤A.length:=by have:=hD.1;omega
  have h60:2 ^ k≤1152921504606846976:=Nat.le_trans (Nat.pow_le_pow_right (by decide) hk2) (by decide)
  have HD:=Lib.hid hD;clear hD
  have Hds:=Lib.hid hds;clear hds
  have HN0:=Lib.hid hN0;clear hN0
  have HN:=Lib.hid hN;clear hN
  have Hlen:=Lib.hid hlen;clear hlen
  have hmask:IntKind.u64.wrap (IntKind.u64.wrap (2 ^ k) - 1)=((2 ^ k - 1:Nat):Int):=by
    have:=Nat.pow_pos (a:=2) (n:=k) (by decide)
    rw [int_pow2]
    generalize 2 ^ k=p at *
    rw [IntWalk.u64_in ((p:Nat):Int) (by omega),IntWalk.u64_in _ (by omega)];omega
  have H60:=Lib.hid h60;clear h60
  obtain ⟨M,hM⟩:∃ M,M=2 ^ k - 1:=⟨_,rfl⟩
  rw [←hM] at hmask
  have HM:=Lib.hid hM;clear hM
  go_enter Tryz.func173,Tryz.ntmps173
  go_wp2_with fail
  go_loopg [4,6] nd (fun g t4 t6 wr=>∃ r n:Nat,t4=.int .i64 r∧t6=.int .u64 n∧g=nd - r∧n=pd A nd r∧r≤nd∧(r=0∨pd A nd (r - 1) < 2 ^ k)∧w=wr)
  case atStart=>exact ⟨0,0,rfl,rfl,rfl,(pd_zero _ _).symm,by omega,.inl rfl,rfl⟩
  case round =>
    obtain ⟨r,n,rfl,rfl,hg,hn,hr,hlow,rfl⟩:=hrel
    have Hg:=Lib.hid hg;clear hg
    have Hn:=Lib.hid hn;clear hn
    have Hlow:=Lib.hid hlow;clear hlow
    by_cases hge:2 ^ k≤n
    · have hb := shr_ge hge
      obtain ⟨r0,hr0⟩:∃ r0,r0=r:=⟨_,rfl⟩
      have Hlo:=Lib.hid (show 2 ^ k≤pd A nd r0 by rw [hr0,←Hn.out];exact hge)
      have hr1:1≤r0:=by
        have h:=Hlo.out
        by_cases e:r0=0
        · rw [e,pd_zero] at h;have:=Nat.pow_pos (a:=2) (n:=k) (by decide);omega
        · omega
      have Hhi:=Lib.hid (show pd A nd (r0 - 1) < 2 ^ k by rcases Hlow.out with e | e;omega;rw [hr0];exact e)
      have hn3:n < 10 * 2 ^ k:=by
        have h:=pd_step (r:=r0 - 1) Hlen.out Hds.out
        rw [show r0 - 1 + 1=r by omega,←Hn.out] at h
        have:=Hhi.out
        omega
      have Hn3:=Lib.hid hn3;clear hn3
      have Hn9:=Lib.hid (show n=pd A nd r0 by rw [hr0];exact Hn.out)
      subst hr0
      clear hge Hn Hlow Hg
      go_wp2_with fail
      have HgN:=Lib.hid (show nd - r0=nd - r0 from rfl)
      go_loopg [4,5,6] (nd - r0) (fun g t4 t5 t6 wr=>∃ (r wq n:Nat) (Ql:By),t4=.int .i64 r∧t5=.int .i64 wq∧t6=.int .u64 n∧g=nd - r∧r=r0 + wq∧(r≤nd∨r=r0)∧Ql.length=wq∧isDs Ql∧pd A nd r=10 * 2 ^ k * dv Ql + n∧n < 10 * 2 ^ k∧DecAt wr b (Ql ++ A.drop wq) nd (dp - (r0 - 1)) neg tr∧w.grownBy wr (some b))
      case atStart=>exact ⟨_,0,_,[],rfl,rfl,rfl,HgN.out,by omega,.inr rfl,rfl,(fun _ h=>by cases h),by rw [←Hn9.out];simp [dv],Hn3.out,HD.out.setDp _,gr_set (World.grownBy.refl _ _) _ _⟩
      case round =>
        clear c0 c1 c2 c3 cf hb
        obtain ⟨r,wq,n,Ql,rfl,rfl,rfl,hg,hrw,hrr,hQl,hQd,hpd,hnn,hD2,hG⟩:=hrel
        obtain ⟨c0,c1,c2,c3,cf⟩:=hD2.cells
        have HG:=Lib.hid hG;clear hG
        have Hg:=Lib.hid hg;clear hg
        have HQl:=Lib.hid hQl;clear hQl
        have HQd:=Lib.hid hQd;clear hQd
        have Hpd:=Lib.hid hpd;clear hpd
        have Hnn:=Lib.hid hnn;clear hnn
        have hwr:wq≤r:=by omega
        have hwr2:wq + 1≤799:=by omega
        have Hrw:=Lib.hid hrw;clear hrw
        have Hrr:=Lib.hid hrr;clear hrr
        obtain ⟨q,hq⟩:∃ q,q=n / 2 ^ k:=⟨_,rfl⟩
        have hqi:(n:Int) / 2 ^ k=(q:Int):=by rw [int_pow2,←Int.natCast_ediv,hq]
        have hq9:q≤9:=by
          have:=(Nat.div_lt_iff_lt_mul (Nat.pow_pos (a:=2) (n:=k) (by decide))).2 Hnn.out
          omega
        have Hq:=Lib.hid hq;clear hq
        obtain ⟨m,hm⟩:∃ m,m=n % 2 ^ k:=⟨_,rfl⟩
        have hand:bits .and .u64 (n:Int) (M:Int)=(m:Int):=by rw [hm];have h1:=Hnn.out;have h2:=H60.out;exact and_mask HM.out hk2 (by generalize 2 ^ k=p at *;omega)
        have hm2:m≤1152921504606846975:=by have h1:=Nat.mod_lt n (Nat.pow_pos (a:=2) (n:=k) (by decide));have h2:=H60.out;rw [←hm] at h1;generalize 2 ^ k=p at *;omega
        have Hm:=Lib.hid hm;clear hm
        obtain ⟨c9,hc9,cw⟩:=hD2.digE (i:=wq) (by omega)
        clear hc9
        by_cases hrn:r < nd
        · obtain ⟨c,hc,cd⟩:=hD2.digE (i:=r) (by omega)
          have hc5:A.getD r 0=c:=by
            rw [←hc]
            simp only [List.getD_eq_getElem?_getD]
            rw [List.getElem?_append_right (by rw [HQl.out];omega),List.getElem?_drop,HQl.out,show wq + (r - wq)=r by omega]
          have hc2:=isDs_at Hds.out hrn Hlen.out
          rw [hc5] at hc2
          obtain ⟨hc3,hc4⟩:=hc2
          have Hc5:=Lib.hid hc5;clear hc5
          have HD2:=Lib.hid hD2;clear hD2
          have Hc:=Lib.hid hc;clear hc
          go_wp2_with fail
          go_roundg (nd - (r + 1))
          case measure=>rw [Hg.out];omega
          case rel =>
            have hst:=div_step (d:=c.toNat - 48) Hpd.out Hq.out Hm.out (by omega)
            refine ⟨r + 1,wq + 1,m * 10 + (c.toNat - 48),Ql ++ [UInt8.ofNat (q + 48)],by go_num,by go_num,ret_num (by omega),rfl,by have:=Hrw.out;omega,.inl (by omega),by simp [HQl.out],isDs_dig HQd.out hq9,?_,hst.2,HD2.out.put HQl.out (by omega) hA800 hq9,(by repeat (first | exact HG.out | apply gr_set | apply gr_drewN | apply gr_drew | apply gr_alloc))⟩
            rw [pd_lt hrn Hlen.out,Hc5.out,dv_dig hq9];exact hst.1
        · have HD2 := Lib.hid hD2; clear hD2
          have hwk:wq + (k + 1)≤nd + k:=by have:=Hrw.out;have:=Hrr.out;omega
          go_wp2_with fail
          have Hst:=Lib.hid (show n=0∨∃ j,2 ^ j ∣ n∧j + (k + 1)=k + 1∧j≤k from .inr ⟨0,by simp,by omega,by omega⟩)
          have Hnr:=Lib.hid (show nd≤r0 + wq by have:=Hrw.out;omega)
          go_loopg [5,6] (k + 1) (fun g t5 t6 wr=>∃ (wq n:Nat) (Ql:By),t5=.int .i64 wq∧t6=.int .u64 n∧wq + g≤nd + k∧nd≤r0 + wq∧(n=0∨∃ j,2 ^ j ∣ n∧j + g=k + 1∧j≤k)∧Ql.length=wq∧isDs Ql∧pd A nd (r0 + wq)=10 * 2 ^ k * dv Ql + n∧n < 10 * 2 ^ k∧DecAt wr b (Ql ++ A.drop wq) nd (dp - (r0 - 1)) neg tr∧w.grownBy wr (some b))
          case atStart=>exact ⟨wq,n,Ql,rfl,rfl,hwk,Hnr.out,Hst.out,HQl.out,HQd.out,by rw [←Hrw.out];exact Hpd.out,Hnn.out,HD2.out,HG.out⟩
          case round =>
            clear c0 c1 c2 c3 cf cw hqi hq9 hand hm2 hwk Hst Hnr HQl HQd Hpd Hnn HD2 HG Hq Hm Hrw Hrr Hg hwr hwr2 hrn
            obtain ⟨wq,n,Ql,rfl,rfl,hwg,hnr,hj,hQl,hQd,hpd,hnn,hD2,hG⟩:=hrel
            obtain ⟨c0,c1,c2,c3,cf⟩:=hD2.cells
            have HG:=Lib.hid hG;clear hG
            have Hj:=Lib.hid hj;clear hj
            have Hnr:=Lib.hid hnr;clear hnr
            have HQl:=Lib.hid hQl;clear hQl
            have HQd:=Lib.hid hQd;clear hQd
            have Hpd:=Lib.hid hpd;clear hpd
            have Hnn:=Lib.hid hnn;clear hnn
            by_cases hn0:0 < n
            · obtain ⟨q,hq⟩:∃ q,q=n / 2 ^ k:=⟨_,rfl⟩
              have hqi:(n:Int) / 2 ^ k=(q:Int):=by rw [int_pow2,←Int.natCast_ediv,hq]
              have hq9:q≤9:=by
                have:=(Nat.div_lt_iff_lt_mul (Nat.pow_pos (a:=2) (n:=k) (by decide))).2 Hnn.out
                omega
              have Hq:=Lib.hid hq;clear hq
              obtain ⟨m,hm⟩:∃ m,m=n % 2 ^ k:=⟨_,rfl⟩
              have hand:bits .and .u64 (n:Int) (M:Int)=(m:Int):=by rw [hm];have h1:=Hnn.out;have h2:=H60.out;exact and_mask HM.out hk2 (by generalize 2 ^ k=p at *;omega)
              have hm2:m≤1152921504606846975:=by have h1:=Nat.mod_lt n (Nat.pow_pos (a:=2) (n:=k) (by decide));have h2:=H60.out;rw [←hm] at h1;generalize 2 ^ k=p at *;omega
              have Hm:=Lib.hid hm;clear hm
              obtain ⟨g1,hg1⟩:∃ g1,gk=g1 + 1:=by
                rcases Hj.out with e | ⟨j,_,e,e2⟩
                · omega
                · exact ⟨gk - 1,by omega⟩
              have hw9:wq + 1≤799:=by omega
              obtain ⟨c9,hc9,cw⟩:=hD2.digE (i:=wq) (by omega)
              clear hc9
              have HD2:=Lib.hid hD2;clear hD2
              have Hg1:=Lib.hid hg1;clear hg1
              go_wp2_with fail
              go_roundg g1
              case measure=>have:=Hg1.out;omega
              case rel =>
                have hst:=div_step (d:=0) Hpd.out Hq.out Hm.out (by omega)
                refine ⟨wq + 1,m * 10,Ql ++ [UInt8.ofNat (q + 48)],by go_num,ret_num (by omega),by have:=Hg1.out;omega,by have:=Hnr.out;omega,?_,by simp [HQl.out],isDs_dig HQd.out hq9,?_,by omega,HD2.out.put HQl.out (by omega) hA800 hq9,(by repeat (first | exact HG.out | apply gr_set | apply gr_drewN | apply gr_drew | apply gr_alloc))⟩
                · by_cases hm0:m=0
                  · left;omega
                  · right
                    rcases Hj.out with e | ⟨j,hdv,e,e2⟩
                    · omega
                    · have hjk:j < k:=by
                        by_cases hjk:j < k
                        · exact hjk
                        · exfalso
                          obtain rfl:j=k:=by omega
                          exact hm0 (by rw [Hm.out];exact Nat.mod_eq_zero_of_dvd hdv)
                      refine ⟨j + 1,?_,by have:=Hg1.out;omega,by omega⟩
                      rw [Hm.out,Nat.pow_succ]
                      have h1:2 ^ j ∣ n % 2 ^ k:=(Nat.dvd_mod_iff (Nat.pow_dvd_pow 2 (by omega))).2 hdv
                      obtain ⟨x,hx⟩:=h1
                      exact ⟨5 * x,by rw [hx,Nat.mul_assoc,Nat.mul_assoc];congr 1;omega⟩
                · rw [show r0 + (wq + 1)=r0 + wq + 1 by omega,pd_ge Hnr.out,dv_dig hq9];have:=hst.1;omega
            · obtain rfl:n=0:=by omega
              have HD2:=Lib.hid hD2;clear hD2
              go_wp2_with fail
              refine (trim_any _ b (Ql ++ A.drop wq) wq (dp - (r0 - 1)) neg tr (by exact HD2.out.setNd wq) (by omega)).mono ?_
              rintro e w9 ⟨rfl,hD9,hg9⟩
              go_wp2_with fail
              go_end0
              have hQ1:(Ql ++ A.drop wq).take wq=Ql:=by rw [←HQl.out];simp
              have hwq1:1≤wq:=by
                by_cases e:wq=0
                · exfalso
                  have h1:=Hpd.out
                  have h2:=HQl.out
                  rw [e] at h2
                  rw [List.eq_nil_of_length_eq_zero h2,e] at h1
                  have h3:=Hlo.out
                  have:=Nat.pow_pos (a:=2) (n:=k) (by decide)
                  simp [dv] at h1;omega
                · omega
              obtain ⟨f1,f2,f3,f4⟩:=rsh_final (w:=wq) (Q:=dv Ql) dp Hlen.out Hds.out HN.out HN0.out hr1 Hlo.out Hhi.out Hnr.out hwq1 (by have:=Hpd.out;omega)
              rw [HR1.out] at f3
              rw [HR2.out] at f4
              have hT:=trimN_dv wq (Ql ++ A.drop wq) (by rw [List.length_append,List.length_drop,HQl.out,hA800];omega) (by rw [hQ1];exact HQd.out) (by rw [hQ1];exact f1) (by rw [hQ1];exact f2)
              rw [hQ1,f3] at hT
              have hR0:R1≠0:=by rw [←f3];exact strip_pos f1
              have hR9:numD R1≠0:=by have:=numD_pos1 hR0;omega
              rw [hT.1] at hD9
              have hdp9:dpN (numD R1) (dp - (r0 - 1))=R2:=by unfold dpN;rw [if_neg hR9,←f4];omega
              rw [hdp9] at hD9
              refine ⟨rfl,⟨?_,_,hD9,?_,?_⟩,(gr_set HG.out _ _).trans hg9⟩
              · rw [←hT.1];have:=trimN_le (Ql ++ A.drop wq) wq;omega
              · rw [←hT.1];exact isDs_take (n:=wq) (by rw [hQ1];exact HQd.out) (trimN_le _ _)
              · rw [←hT.1];exact hT.2
    · have hlt : n < 2 ^ k := by omega
      have hb:=shr_lt hlt
      have hn2:n≤1152921504606846975:=by have:=H60.out;omega
      have Hlt:=Lib.hid hlt
      clear hge hlt
      by_cases hrn:r < nd
      · obtain ⟨c,hc,cd⟩:=HD.out.digE (i:=r) (by omega)
        have hc2:=isDs_at Hds.out hrn Hlen.out
        rw [hc] at hc2
        obtain ⟨hc3,hc4⟩:=hc2
        have Hc:=Lib.hid hc;clear hc
        go_wp2_with fail
        go_roundg (nd - (r + 1))
        case measure=>rw [Hg.out];omega
        case rel =>
          refine ⟨r + 1,n * 10 + (c.toNat - 48),by go_num,ret_num (by omega),rfl,?_,by omega,.inr ?_,rfl⟩
          · rw [pd_lt hrn Hlen.out,Hc.out,←Hn.out];omega
          · rw [Nat.add_sub_cancel,←Hn.out];exact Hlt.out
      · obtain rfl : r = nd := by omega
        have hn0:((n:Int) == 0)=false:=by
          have:=HN0.out;have:=pd_nd A r;have:=Hn.out;simp;omega
        go_wp2_with fail
        have hlow2:pd A r (r - 1) < 2 ^ k:=by rcases Hlow.out with e | e;omega;exact e
        have Hlow2:=Lib.hid hlow2
        have hn1':1≤n:=by simp at hn0;omega
        obtain ⟨nd,hnd0⟩:∃ nd,nd=r:=⟨_,rfl⟩
        subst hnd0
        have Hg9:=Lib.hid (show 2 ^ k - n=2 ^ k - n from rfl)
        clear hlow2 hb hn2 Hlt Hlow Hg
        go_loopg [4,6] (2 ^ k - n) (fun g t4 t6 wr=>∃ r n j:Nat,t4=.int .i64 r∧t6=.int .u64 n∧g=2 ^ k - n∧r=nd + j∧j≤19∧10 ^ j≤n∧n=pd A nd r∧(r=0∨pd A nd (r - 1) < 2 ^ k)∧w=wr)
        case atStart=>exact ⟨nd,n,0,rfl,rfl,Hg9.out,rfl,by omega,by simpa using hn1',Hn.out,.inr Hlow2.out,rfl⟩
        case round =>
          clear Hn Hlow2 Hg9 hn0 hn1'
          obtain ⟨r,n,j,rfl,rfl,hg,hrj,hj19,hjn,hn,hlow,rfl⟩:=hrel
          have Hg:=Lib.hid hg;clear hg
          have Hn:=Lib.hid hn;clear hn
          have Hlow:=Lib.hid hlow;clear hlow
          have Hjn:=Lib.hid hjn;clear hjn
          have hrb:r≤818:=by omega
          have Hrj:=Lib.hid hrj
          have hrnd:nd≤r:=by omega
          clear hrj
          by_cases hge:2 ^ k≤n
          · have hb := shr_ge hge
            obtain ⟨r0,hr0⟩:∃ r0,r0=r:=⟨_,rfl⟩
            have Hlo:=Lib.hid (show 2 ^ k≤pd A nd r0 by rw [hr0,←Hn.out];exact hge)
            have hr1:1≤r0:=by
              have h:=Hlo.out
              by_cases e:r0=0
              · rw [e,pd_zero] at h;have:=Nat.pow_pos (a:=2) (n:=k) (by decide);omega
              · omega
            have Hhi:=Lib.hid (show pd A nd (r0 - 1) < 2 ^ k by rcases Hlow.out with e | e;omega;rw [hr0];exact e)
            have hn3:n < 10 * 2 ^ k:=by
              have h:=pd_step (r:=r0 - 1) Hlen.out Hds.out
              rw [show r0 - 1 + 1=r by omega,←Hn.out] at h
              have:=Hhi.out
              omega
            have Hn3:=Lib.hid hn3;clear hn3
            have Hn9:=Lib.hid (show n=pd A nd r0 by rw [hr0];exact Hn.out)
            subst hr0
            clear hge Hn Hlow Hg
            go_wp2_with fail
            have HgN:=Lib.hid (show nd - r0=nd - r0 from rfl)
            go_loopg [4,5,6] (nd - r0) (fun g t4 t5 t6 wr=>∃ (r wq n:Nat) (Ql:By),t4=.int .i64 r∧t5=.int .i64 wq∧t6=.int .u64 n∧g=nd - r∧r=r0 + wq∧(r≤nd∨r=r0)∧Ql.length=wq∧isDs Ql∧pd A nd r=10 * 2 ^ k * dv Ql + n∧n < 10 * 2 ^ k∧DecAt wr b (Ql ++ A.drop wq) nd (dp - (r0 - 1)) neg tr∧w.grownBy wr (some b))
            case atStart=>exact ⟨_,0,_,[],rfl,rfl,rfl,HgN.out,by omega,.inr rfl,rfl,(fun _ h=>by cases h),by rw [←Hn9.out];simp [dv],Hn3.out,HD.out.setDp _,gr_set (World.grownBy.refl _ _) _ _⟩
            case round =>
              clear c0 c1 c2 c3 cf hb
              obtain ⟨r,wq,n,Ql,rfl,rfl,rfl,hg,hrw,hrr,hQl,hQd,hpd,hnn,hD2,hG⟩:=hrel
              obtain ⟨c0,c1,c2,c3,cf⟩:=hD2.cells
              have HG:=Lib.hid hG;clear hG
              have Hg:=Lib.hid hg;clear hg
              have HQl:=Lib.hid hQl;clear hQl
              have HQd:=Lib.hid hQd;clear hQd
              have Hpd:=Lib.hid hpd;clear hpd
              have Hnn:=Lib.hid hnn;clear hnn
              have hwr:wq≤r:=by omega
              have hwr2:wq + 1≤799:=by omega
              have Hrw:=Lib.hid hrw;clear hrw
              have Hrr:=Lib.hid hrr;clear hrr
              obtain ⟨q,hq⟩:∃ q,q=n / 2 ^ k:=⟨_,rfl⟩
              have hqi:(n:Int) / 2 ^ k=(q:Int):=by rw [int_pow2,←Int.natCast_ediv,hq]
              have hq9:q≤9:=by
                have:=(Nat.div_lt_iff_lt_mul (Nat.pow_pos (a:=2) (n:=k) (by decide))).2 Hnn.out
                omega
              have Hq:=Lib.hid hq;clear hq
              obtain ⟨m,hm⟩:∃ m,m=n % 2 ^ k:=⟨_,rfl⟩
              have hand:bits .and .u64 (n:Int) (M:Int)=(m:Int):=by rw [hm];have h1:=Hnn.out;have h2:=H60.out;exact and_mask HM.out hk2 (by generalize 2 ^ k=p at *;omega)
              have hm2:m≤1152921504606846975:=by have h1:=Nat.mod_lt n (Nat.pow_pos (a:=2) (n:=k) (by decide));have h2:=H60.out;rw [←hm] at h1;generalize 2 ^ k=p at *;omega
              have Hm:=Lib.hid hm;clear hm
              obtain ⟨c9,hc9,cw⟩:=hD2.digE (i:=wq) (by omega)
              clear hc9
              by_cases hrn:r < nd
              · obtain ⟨c,hc,cd⟩:=hD2.digE (i:=r) (by omega)
                have hc5:A.getD r 0=c:=by
                  rw [←hc]
                  simp only [List.getD_eq_getElem?_getD]
                  rw [List.getElem?_append_right (by rw [HQl.out];omega),List.getElem?_drop,HQl.out,show wq + (r - wq)=r by omega]
                have hc2:=isDs_at Hds.out hrn Hlen.out
                rw [hc5] at hc2
                obtain ⟨hc3,hc4⟩:=hc2
                have Hc5:=Lib.hid hc5;clear hc5
                have HD2:=Lib.hid hD2;clear hD2
                have Hc:=Lib.hid hc;clear hc
                go_wp2_with fail
                go_roundg (nd - (r + 1))
                case measure=>rw [Hg.out];omega
                case rel =>
                  have hst:=div_step (d:=c.toNat - 48) Hpd.out Hq.out Hm.out (by omega)
                  refine ⟨r + 1,wq + 1,m * 10 + (c.toNat - 48),Ql ++ [UInt8.ofNat (q + 48)],by go_num,by go_num,ret_num (by omega),rfl,by have:=Hrw.out;omega,.inl (by omega),by simp [HQl.out],isDs_dig HQd.out hq9,?_,hst.2,HD2.out.put HQl.out (by omega) hA800 hq9,(by repeat (first | exact HG.out | apply gr_set | apply gr_drewN | apply gr_drew | apply gr_alloc))⟩
                  rw [pd_lt hrn Hlen.out,Hc5.out,dv_dig hq9];exact hst.1
              · have HD2 := Lib.hid hD2; clear hD2
                have hwk:wq + (k + 1)≤nd + k:=by have:=Hrw.out;have:=Hrr.out;omega
                go_wp2_with fail
                have Hst:=Lib.hid (show n=0∨∃ j,2 ^ j ∣ n∧j + (k + 1)=k + 1∧j≤k from .inr ⟨0,by simp,by omega,by omega⟩)
                have Hnr:=Lib.hid (show nd≤r0 + wq by have:=Hrw.out;omega)
                go_loopg [5,6] (k + 1) (fun g t5 t6 wr=>∃ (wq n:Nat) (Ql:By),t5=.int .i64 wq∧t6=.int .u64 n∧wq + g≤nd + k∧nd≤r0 + wq∧(n=0∨∃ j,2 ^ j ∣ n∧j + g=k + 1∧j≤k)∧Ql.length=wq∧isDs Ql∧pd A nd (r0 + wq)=10 * 2 ^ k * dv Ql + n∧n < 10 * 2 ^ k∧DecAt wr b (Ql ++ A.drop wq) nd (dp - (r0 - 1)) neg tr∧w.grownBy wr (some b))
                case atStart=>exact ⟨wq,n,Ql,rfl,rfl,hwk,Hnr.out,Hst.out,HQl.out,HQd.out,by rw [←Hrw.out];exact Hpd.out,Hnn.out,HD2.out,HG.out⟩
                case round =>
                  clear c0 c1 c2 c3 cf cw hqi hq9 hand hm2 hwk Hst Hnr HQl HQd Hpd Hnn HD2 HG Hq Hm Hrw Hrr Hg hwr hwr2 hrn
                  obtain ⟨wq,n,Ql,rfl,rfl,hwg,hnr,hj,hQl,hQd,hpd,hnn,hD2,hG⟩:=hrel
                  obtain ⟨c0,c1,c2,c3,cf⟩:=hD2.cells
                  have HG:=Lib.hid hG;clear hG
                  have Hj:=Lib.hid hj;clear hj
                  have Hnr:=Lib.hid hnr;clear hnr
                  have HQl:=Lib.hid hQl;clear hQl
                  have HQd:=Lib.hid hQd;clear hQd
                  have Hpd:=Lib.hid hpd;clear hpd
                  have Hnn:=Lib.hid hnn;clear hnn
                  by_cases hn0:0 < n
                  · obtain ⟨q,hq⟩:∃ q,q=n / 2 ^ k:=⟨_,rfl⟩
                    have hqi:(n:Int) / 2 ^ k=(q:Int):=by rw [int_pow2,←Int.natCast_ediv,hq]
                    have hq9:q≤9:=by
                      have:=(Nat.div_lt_iff_lt_mul (Nat.pow_pos (a:=2) (n:=k) (by decide))).2 Hnn.out
                      omega
                    have Hq:=Lib.hid hq;clear hq
                    obtain ⟨m,hm⟩:∃ m,m=n % 2 ^ k:=⟨_,rfl⟩
                    have hand:bits .and .u64 (n:Int) (M:Int)=(m:Int):=by rw [hm];have h1:=Hnn.out;have h2:=H60.out;exact and_mask HM.out hk2 (by generalize 2 ^ k=p at *;omega)
                    have hm2:m≤1152921504606846975:=by have h1:=Nat.mod_lt n (Nat.pow_pos (a:=2) (n:=k) (by decide));have h2:=H60.out;rw [←hm] at h1;generalize 2 ^ k=p at *;omega
                    have Hm:=Lib.hid hm;clear hm
                    obtain ⟨g1,hg1⟩:∃ g1,gk=g1 + 1:=by
                      rcases Hj.out with e | ⟨j,_,e,e2⟩
                      · omega
                      · exact ⟨gk - 1,by omega⟩
                    have hw9:wq + 1≤799:=by omega
                    obtain ⟨c9,hc9,cw⟩:=hD2.digE (i:=wq) (by omega)
                    clear hc9
                    have HD2:=Lib.hid hD2;clear hD2
                    have Hg1:=Lib.hid hg1;clear hg1
                    go_wp2_with fail
                    go_roundg g1
                    case measure=>have:=Hg1.out;omega
                    case rel =>
                      have hst:=div_step (d:=0) Hpd.out Hq.out Hm.out (by omega)
                      refine ⟨wq + 1,m * 10,Ql ++ [UInt8.ofNat (q + 48)],by go_num,ret_num (by omega),by have:=Hg1.out;omega,by have:=Hnr.out;omega,?_,by simp [HQl.out],isDs_dig HQd.out hq9,?_,by omega,HD2.out.put HQl.out (by omega) hA800 hq9,(by repeat (first | exact HG.out | apply gr_set | apply gr_drewN | apply gr_drew | apply gr_alloc))⟩
                      · by_cases hm0:m=0
                        · left;omega
                        · right
                          rcases Hj.out with e | ⟨j,hdv,e,e2⟩
                          · omega
                          · have hjk:j < k:=by
                              by_cases hjk:j < k
                              · exact hjk
                              · exfalso
                                obtain rfl:j=k:=by omega
                                exact hm0 (by rw [Hm.out];exact Nat.mod_eq_zero_of_dvd hdv)
                            refine ⟨j + 1,?_,by have:=Hg1.out;omega,by omega⟩
                            rw [Hm.out,Nat.pow_succ]
                            have h1:2 ^ j ∣ n % 2 ^ k:=(Nat.dvd_mod_iff (Nat.pow_dvd_pow 2 (by omega))).2 hdv
                            obtain ⟨x,hx⟩:=h1
                            exact ⟨5 * x,by rw [hx,Nat.mul_assoc,Nat.mul_assoc];congr 1;omega⟩
                      · rw [show r0 + (wq + 1)=r0 + wq + 1 by omega,pd_ge Hnr.out,dv_dig hq9];have:=hst.1;omega
                  · obtain rfl:n=0:=by omega
                    have HD2:=Lib.hid hD2;clear hD2
                    go_wp2_with fail
                    refine (trim_any _ b (Ql ++ A.drop wq) wq (dp - (r0 - 1)) neg tr (by exact HD2.out.setNd wq) (by omega)).mono ?_
                    rintro e w9 ⟨rfl,hD9,hg9⟩
                    go_wp2_with fail
                    go_end0
                    have hQ1:(Ql ++ A.drop wq).take wq=Ql:=by rw [←HQl.out];simp
                    have hwq1:1≤wq:=by
                      by_cases e:wq=0
                      · exfalso
                        have h1:=Hpd.out
                        have h2:=HQl.out
                        rw [e] at h2
                        rw [List.eq_nil_of_length_eq_zero h2,e] at h1
                        have h3:=Hlo.out
                        have:=Nat.pow_pos (a:=2) (n:=k) (by decide)
                        simp [dv] at h1;omega
                      · omega
                    obtain ⟨f1,f2,f3,f4⟩:=rsh_final (w:=wq) (Q:=dv Ql) dp Hlen.out Hds.out HN.out HN0.out hr1 Hlo.out Hhi.out Hnr.out hwq1 (by have:=Hpd.out;omega)
                    rw [HR1.out] at f3
                    rw [HR2.out] at f4
                    have hT:=trimN_dv wq (Ql ++ A.drop wq) (by rw [List.length_append,List.length_drop,HQl.out,hA800];omega) (by rw [hQ1];exact HQd.out) (by rw [hQ1];exact f1) (by rw [hQ1];exact f2)
                    rw [hQ1,f3] at hT
                    have hR0:R1≠0:=by rw [←f3];exact strip_pos f1
                    have hR9:numD R1≠0:=by have:=numD_pos1 hR0;omega
                    rw [hT.1] at hD9
                    have hdp9:dpN (numD R1) (dp - (r0 - 1))=R2:=by unfold dpN;rw [if_neg hR9,←f4];omega
                    rw [hdp9] at hD9
                    refine ⟨rfl,⟨?_,_,hD9,?_,?_⟩,(gr_set HG.out _ _).trans hg9⟩
                    · rw [←hT.1];have:=trimN_le (Ql ++ A.drop wq) wq;omega
                    · rw [←hT.1];exact isDs_take (n:=wq) (by rw [hQ1];exact HQd.out) (trimN_le _ _)
                    · rw [←hT.1];exact hT.2
          · have hlt:n < 2 ^ k:=by omega
            have hb:=shr_lt hlt
            have hn2:n≤1152921504606846975:=by have:=H60.out;omega
            have Hlt:=Lib.hid hlt
            clear hge hlt
            have hj9:j < 19:=by
              by_cases h:j < 19
              · exact h
              · obtain rfl:j=19:=by omega
                have h1:=Hjn.out
                have:(10:Nat) ^ 19=10000000000000000000:=by decide
                omega
            go_wp2_with fail
            go_roundg (2 ^ k - n * 10)
            case measure=>rw [Hg.out];have h1:=Hlt.out;have h2:=Hjn.out;have:=pow10_pos j;omega
            case rel=>exact ⟨r + 1,n * 10,j + 1,by go_num,by go_num,rfl,by have:=Hrj.out;omega,by omega,by rw [Nat.pow_succ];exact Nat.mul_le_mul_right _ Hjn.out,by rw [pd_ge hrnd,←Hn.out];omega,.inr (by rw [Nat.add_sub_cancel,←Hn.out];exact Hlt.out),rfl⟩
end Go.Proofs.YtfkecmlmnhbmoaaGreatDoor
namespace Go.Proofs.YtfkecmlmnhbmoaaGreatDoor
theorem hexF_odd:∀ (l:By) (od:Bool) (half:Int) (out:By) (o:Bool),(hexF l od half out o).2.2.2=false→o=false:=by
  intro l
  induction l with
  | nil=>intro od half out o h;exact h
  | cons c l ih =>
    intro od half out o h
    simp only [hexF] at h
    split at h
    · exact h
    · split at h
      · have:=ih _ _ _ _ h
        simp at this
        exact this.1.1
      · split at h
        · exact h
        · split at h
          · exact ih _ _ _ _ h
          · exact ih _ _ _ _ h
def upB (c:UInt8):UInt8:=if 97≤(c.toNat:Int)∧(c.toNat:Int)≤122 then UInt8.ofNat (c.toNat - 32) else c
theorem upB_val (c:UInt8):((upB c).toNat:Int)=if 97≤(c.toNat:Int)∧(c.toNat:Int)≤122 then (c.toNat:Int) - 32 else (c.toNat:Int):=by
  have:=c.toNat_lt
  unfold upB
  split
  · rw [UInt8.toNat_ofNat'];omega
  · rfl
theorem hex_up (c:UInt8) (h:0≤hexVal (c.toNat:Int)):hexVal ((upB c).toNat:Int)=hexVal (c.toNat:Int)∧isWhite ((upB c).toNat:Int)=false∧((upB c).toNat:Int)≠62∧(48≤((upB c).toNat:Int)∧((upB c).toNat:Int)≤57∨65≤((upB c).toNat:Int)∧((upB c).toNat:Int)≤70):=by
  have hv:=upB_val c
  have hr:=bi_range c
  generalize ((upB c).toNat:Int)=u at *
  generalize (c.toNat:Int)=n at *
  simp only [isWhite]
  unfold hexVal at h ⊢
  repeat' split at h
  all_goals repeat' split
  all_goals first
    | omega
    | (refine ⟨by omega,?_,by omega,by omega⟩;simp only [Bool.or_eq_false_iff,beq_eq_false_iff_ne];omega)
    | (split at hv<;>omega)
def hexS:By→Nat→By→By
  | [],i,out=>if i % 2 > 0 then out ++ [48] else out
  | c::l,i,out=>if isWhite (c.toNat:Int) then (if i % 2 > 0 then hexS l 0 (out ++ [48]) else hexS l i out) else hexS l (i + 1) (out ++ [upB c])
theorem hexS_acc:∀ (l:By) (i:Nat) (out:By),hexS l i out=out ++ hexS l i []:=by
  intro l
  induction l with
  | nil=>intro i out;simp only [hexS];split<;>simp
  | cons c l ih =>
    intro i out
    simp only [hexS]
    split
    · split
      · rw [ih 0 (out ++ [48]),ih 0 ([] ++ [48])];simp
      · exact ih i out
    · rw [ih _ (out ++ [upB c]),ih _ ([] ++ [upB c])];simp
def hexOkc (c:UInt8):Prop:=isWhite (c.toNat:Int)=true∧(c.toNat:Int)≠0∨isWhite (c.toNat:Int)=false∧0≤hexVal (c.toNat:Int)
theorem hexOkc_ne {c:UInt8} (h:hexOkc c):(c.toNat:Int)≠62∧(c.toNat:Int) < 128:=by
  unfold hexOkc isWhite hexVal at h
  have:=bi_range c
  rcases h with h | h
  · simp at h;omega
  · have h2:=h.2
    repeat' split at h2
    all_goals omega
theorem hex_dig (l:By) (c:UInt8) (od:Bool) (half:Int) (out:By) (h62:((c.toNat:Int) == 62)=false) (hw:isWhite (c.toNat:Int)=false) (hv:0≤hexVal (c.toNat:Int)) :
    hexF (c::l) od half out false=if od then hexF l false half (out ++ [ub (half * 16 + hexVal (c.toNat:Int))]) false else hexF l true (hexVal (c.toNat:Int)) out false:=by
  simp only [hexF,h62,hw,Bool.false_eq_true,if_false]
  rw [if_neg (by omega)]
theorem hex_lit : ∀ (l : By) (od : Bool) (half : Int) (out t r : By) (i : Nat), (od = decide (i % 2 = 1)) → hexF l od half out false = (0, t, r, false) →
    ∃ h,l=h ++ 62::r∧(∀ c∈h,hexOkc c)∧hexF (hexS h i [] ++ [62]) od half out false=(0,t,[],false)∧(∀ a b,h=a ++ b→(∀ c∈b,isWhite (c.toNat:Int)=true)→hexF (a ++ 62::r) od half out false=(0,t,r,false)):=by
  intro l
  induction l with
  | nil=>intro od half out t r i ho h;simp [hexF] at h
  | cons c l ih =>
    intro od half out t r i ho h
    by_cases h62:((c.toNat:Int) == 62)=true
    · simp only [hexF,h62,if_true] at h
      have hc:c=62:=by apply UInt8.toNat_inj.1;simp at h62 ⊢;omega
      subst hc
      obtain ⟨_,ht,rfl,_⟩:True∧(if od=true then out ++ [ub (half * 16)] else out)=t∧l=r∧True:=by simpa using h
      refine ⟨[],rfl,by simp,?_,?_⟩
      · simp only [hexS]
        by_cases hi:i % 2 > 0
        · have hod:od=true:=by rw [ho];simp;omega
          rw [if_pos hi]
          rw [hod] at ht ⊢
          have h48:((48:UInt8).toNat:Int)=48:=rfl
          show hexF (48::[62]) true half out false=_
          rw [hex_dig _ _ _ _ _ (by rw [h48];rfl) (by rw [h48];rfl) (by rw [h48];decide)]
          rw [←ht,h48]
          simp [hexF,hexVal]
        · have hod:od=false:=by rw [ho];simp;omega
          rw [if_neg hi]
          rw [hod] at ht ⊢
          simp [hexF] at ht ⊢
          exact ht
      · intro a b hab _
        have ha:a=[]:=by cases a with | nil=>rfl | cons _ _=>simp at hab
        subst ha
        simp only [List.nil_append,hexF,h62,if_true]
        rw [ht]
    · simp only [Bool.not_eq_true] at h62
      by_cases hw:isWhite (c.toNat:Int)=true
      · simp only [hexF,h62,hw,if_true,Bool.false_eq_true,if_false] at h
        have hodd:=hexF_odd l od half out _ (by rw [h])
        simp at hodd
        obtain ⟨hod,h0⟩:=hodd
        have h00:((c.toNat:Int) == 0)=false:=by simp;omega
        have hi:¬i % 2 > 0:=by rw [hod] at ho;simp at ho;omega
        rw [hod,h00] at h
        rw [hod]
        obtain ⟨hh,rfl,e2,e3,e4⟩:=ih false half out t r i (by rw [←hod];exact ho) h
        refine ⟨c::hh,rfl,?_,?_,?_⟩
        · intro d hd
          rcases List.mem_cons.1 hd with rfl | hd
          · exact .inl ⟨hw,by omega⟩
          · exact e2 d hd
        · simp only [hexS,hw,if_true,if_neg hi]
          exact e3
        · intro a b hab hb
          cases a with
          | nil =>
            have:=e4 [] hh rfl (fun d hd=>hb d (by rw [List.nil_append] at hab;rw [←hab];simp [hd]))
            exact this
          | cons a0 a =>
            simp at hab
            obtain ⟨rfl,rfl⟩:=hab
            have:=e4 a b rfl hb
            simp only [List.cons_append,hexF,h62,hw,h00,Bool.false_eq_true,if_false,if_true,Bool.or_false]
            exact this
      · simp only [Bool.not_eq_true] at hw
        by_cases hv:hexVal (c.toNat:Int) < 0
        · simp [hexF,h62,hw,hv] at h
        · have hv:0≤hexVal (c.toNat:Int):=by omega
          obtain ⟨u1,u2,u3,u4⟩:=hex_up c hv
          have u62:(((upB c).toNat:Int) == 62)=false:=by simp;omega
          rw [hex_dig _ _ _ _ _ h62 hw hv] at h
          cases od with
          | true =>
            simp only [if_true] at h
            obtain ⟨hh,rfl,e2,e3,e4⟩:=ih false half _ t r (i + 1) (by simp at ho ⊢;omega) h
            refine ⟨c::hh,rfl,?_,?_,?_⟩
            · intro d hd
              rcases List.mem_cons.1 hd with rfl | hd
              · exact .inr ⟨hw,hv⟩
              · exact e2 d hd
            · simp only [hexS,hw,Bool.false_eq_true,if_false]
              rw [hexS_acc]
              simp only [List.nil_append,List.cons_append]
              rw [hex_dig _ _ _ _ _ u62 u2 (by rw [u1];exact hv),u1]
              simp only [if_true]
              exact e3
            · intro a b hab hb
              cases a with
              | nil =>
                have:=hb c (by rw [List.nil_append] at hab;rw [←hab];simp)
                rw [hw] at this;exact absurd this (by simp)
              | cons a0 a =>
                simp at hab
                obtain ⟨rfl,rfl⟩:=hab
                rw [List.cons_append,hex_dig _ _ _ _ _ h62 hw hv]
                simp only [if_true]
                exact e4 a b rfl hb
          | false =>
            simp only [Bool.false_eq_true,if_false] at h
            obtain ⟨hh,rfl,e2,e3,e4⟩:=ih true _ out t r (i + 1) (by simp at ho ⊢;omega) h
            refine ⟨c::hh,rfl,?_,?_,?_⟩
            · intro d hd
              rcases List.mem_cons.1 hd with rfl | hd
              · exact .inr ⟨hw,hv⟩
              · exact e2 d hd
            · simp only [hexS,hw,Bool.false_eq_true,if_false]
              rw [hexS_acc]
              simp only [List.nil_append,List.cons_append]
              rw [hex_dig _ _ _ _ _ u62 u2 (by rw [u1];exact hv),u1]
              simp only [Bool.false_eq_true,if_false]
              exact e3
            · intro a b hab hb
              cases a with
              | nil =>
                have:=hb c (by rw [List.nil_append] at hab;rw [←hab];simp)
                rw [hw] at this;exact absurd this (by simp)
              | cons a0 a =>
                simp at hab
                obtain ⟨rfl,rfl⟩:=hab
                rw [List.cons_append,hex_dig _ _ _ _ _ h62 hw hv]
                simp only [Bool.false_eq_true,if_false]
                exact e4 a b rfl hb
theorem hex_left:∀ (a l:By) (half:Int) (t r:By),(∀ c∈a,isWhite (c.toNat:Int)=true∧(c.toNat:Int)≠0)→hexF (a ++ l) false half [] false=(0,t,r,false)→hexF l false half [] false=(0,t,r,false):=by
  intro a
  induction a with
  | nil=>intro l half t r _ h;exact h
  | cons c a ih =>
    intro l half t r ha h
    obtain ⟨hw,h0⟩:=ha c (by simp)
    have h62:((c.toNat:Int) == 62)=false:=by unfold isWhite at hw;simp at hw ⊢;omega
    have h00:((c.toNat:Int) == 0)=false:=by simp;omega
    simp only [List.cons_append,hexF,h62,hw,h00,Bool.false_eq_true,if_false,if_true,Bool.or_false] at h
    exact ih l half t r (fun d hd=>ha d (by simp [hd])) h
theorem hexS_dig:∀ (l:By) (i:Nat),(∀ c∈l,hexOkc c)→∀ c∈hexS l i [],0≤hexVal (c.toNat:Int):=by
  intro l
  induction l with
  | nil =>
    intro i _ c hc
    simp only [hexS] at hc
    split at hc
    · simp at hc;subst hc;decide
    · simp at hc
  | cons d l ih =>
    intro i hl c hc
    simp only [hexS] at hc
    have hd:=hl d (by simp)
    have hl':=fun c hc=>hl c (List.mem_cons_of_mem _ hc)
    split at hc
    · split at hc
      · rw [hexS_acc] at hc
        rcases List.mem_append.1 hc with hc | hc
        · simp at hc;subst hc;decide
        · exact ih 0 hl' c hc
      · exact ih i hl' c hc
    · rename_i hw
      rw [hexS_acc] at hc
      rcases List.mem_append.1 hc with hc | hc
      · simp at hc;subst hc
        rcases hd with hd | hd
        · exact absurd hd.1 hw
        · rw [(hex_up d hd.2).1];exact hd.2
      · exact ih _ hl' c hc
end Go.Proofs.YtfkecmlmnhbmoaaGreatDoor
namespace Go.Proofs.YtfkecmlmnhbmoaaGreatDoor
inductive PO where
  | null | bool (b:Bool) | int (n:Int) | real (x:Nat) | lit (s:By) | hexl (s:By) | name (s:By) | ref (n g:Int) | arr (kids:List PO) | dict (keys:List By) (kids:List PO)
def litT (s:By):By:=match litF (40::(s ++ [41])) 0 [] with
  | some (t,_)=>t
  | none=>[]
def hexT (s:By):By:=(hexF (s ++ [62]) false 0 [] false).2.1
mutual
def valP:PO→PV
  | .null=>.null
  | .bool b=>.bool (if b then 1 else 0)
  | .int n=>.int n
  | .real x=>.real x
  | .lit s=>.str (litT s)
  | .hexl s=>.str (hexT s)
  | .name s=>.name s
  | .ref n g=>.ref n g
  | .arr kids=>.arr (valPs kids)
  | .dict keys kids=>.dict keys (valPs kids)
def valPs:List PO→List PV
  | []=>[]
  | p::ps=>valP p::valPs ps
end
theorem valPs_map:∀ l,valPs l=l.map valP:=by
  intro l
  induction l with
  | nil=>rfl
  | cons p l ih=>simp [valPs,ih]
def leBy:By→By→Bool:=fun x y=>decide (x≤y)
def look {α:Type} (d:α):List By→List α→By→α
  | k::ks,p::ps,q=>if k=q then p else look d ks ps q
  | _,_,_=>d
mutual
def sortP:PO→PO
  | .arr kids=>.arr (sortPs kids)
  | .dict keys kids=>.dict (keys.mergeSort leBy) ((keys.mergeSort leBy).map (look .null keys (sortPs kids)))
  | .null=>.null
  | .bool b=>.bool b
  | .int n=>.int n
  | .real x=>.real x
  | .lit s=>.lit s
  | .hexl s=>.hexl s
  | .name s=>.name s
  | .ref n g=>.ref n g
def sortPs:List PO→List PO
  | []=>[]
  | p::ps=>sortP p::sortPs ps
end
theorem sortPs_map:∀ l,sortPs l=l.map sortP:=by
  intro l
  induction l with
  | nil=>rfl
  | cons p l ih=>simp [sortPs,ih]
mutual
def okP:PO→Prop
  | .int n=>-2147483648≤n∧n≤2147483647
  | .lit s=>∃ t,litF (40::(s ++ [41])) 0 []=some (t,[])
  | .hexl s=>∀ c∈s,0≤hexVal (c.toNat:Int)
  | .name s=>∀ c∈s,(c.toNat:Int)≠0
  | .ref n g=>0 < n∧n≤2147483647∧0≤g∧g≤65535
  | .arr kids=>okPs kids
  | .dict keys kids=>keys.length=kids.length∧okPs kids
  | .null=>True
  | .bool _=>True
  | .real _=>True
def okPs:List PO→Prop
  | []=>True
  | p::ps=>okP p∧okPs ps
end
theorem okPs_all:∀ l,okPs l↔∀ p∈l,okP p:=by
  intro l
  induction l with
  | nil=>simp [okPs]
  | cons p l ih=>simp [okPs,ih]
def PV.isNull:PV→Bool
  | .null=>true
  | _=>false
def nnz (l:List PV):Nat:=(l.filter fun x=>!x.isNull).length
def SameN (eqv:Nat→Nat→Prop):Nat→PV→PV→Prop
  | 0,_,_=>False
  | n + 1,.arr ks,.arr ls=>ks.length=ls.length∧∀ (i:Nat) a b,ks[i]?=some a→ls[i]?=some b→SameN eqv n a b
  | n + 1,.dict k1 v1,.dict k2 v2=>k1.length=v1.length∧k2.length=v2.length∧nnz v1=nnz v2∧∀ (i:Nat) k a,k1[i]?=some k→v1[i]?=some a→a.isNull=false→∃ (j:Nat) (b:PV),k2[j]?=some k∧(∀ j':Nat,j' < j→k2[j']?≠some k)∧v2[j]?=some b∧b.isNull=false∧SameN eqv n a b
  | _ + 1,.real x,.real y=>eqv x y
  | _ + 1,.null,.null=>True
  | _ + 1,.bool a,.bool b=>a=b
  | _ + 1,.int a,.int b=>a=b
  | _ + 1,.str a,.str b=>a=b
  | _ + 1,.name a,.name b=>a=b
  | _ + 1,.ref a c,.ref b d=>a=b∧c=d
  | _ + 1,_,_=>False
def Corr (nn:Nat→Prop):Nat→PO→PV→Prop
  | 0,_,_=>False
  | n + 1,.arr ps,.arr xs=>ps.length=xs.length∧∀ (i:Nat) p x,ps[i]?=some p→xs[i]?=some x→Corr nn n p x
  | n + 1,.dict ks ps,.dict keys xs=>keys.Nodup∧keys.length=xs.length∧ks.length=ps.length∧ks=((keys.zip xs).filter fun e=>!e.2.isNull).map (·.1)∧∀ (i:Nat) k p,ks[i]?=some k→ps[i]?=some p→∃ x,(k,x)∈keys.zip xs∧x.isNull=false∧Corr nn n p x
  | _ + 1,.real x,.real y=>x=y∧nn x
  | _ + 1,.null,.null=>True
  | _ + 1,.bool a,.bool b=>b=if a then 1 else 0
  | _ + 1,.int a,.int b=>a=b∧-2147483648≤a∧a≤2147483647
  | _ + 1,.lit s,.str b=>litF (40::(s ++ [41])) 0 []=some (b,[])
  | _ + 1,.hexl s,.str b=>(∀ c∈s,0≤hexVal (c.toNat:Int))∧hexF (s ++ [62]) false 0 [] false=(0,b,[],false)
  | _ + 1,.name a,.name b=>a=b∧∀ c∈a,(c.toNat:Int)≠0
  | _ + 1,.ref a c,.ref b d=>a=b∧c=d∧0 < a∧a≤2147483647∧0≤c∧c≤65535
  | _ + 1,_,_=>False
theorem Corr.ok {nn:Nat→Prop} : ∀ (n:Nat) (p:PO) (x:PV),Corr nn n p x→okP p:=by
  intro n
  induction n with
  | zero=>intro p x h;simp [Corr] at h
  | succ n ih =>
    intro p x h
    cases p<;>cases x<;>simp only [Corr] at h<;>try exact h.elim
    all_goals simp only [okP]
    · exact h.2
    · exact ⟨_,h⟩
    · exact h.1
    · exact h.2
    · exact h.2.2
    · rw [okPs_all]
      intro p hp
      obtain ⟨i,hi⟩:=List.mem_iff_getElem?.1 hp
      have hlt:=(List.getElem?_eq_some_iff.1 hi).1
      exact ih p _ (h.2 i p _ hi (List.getElem?_eq_getElem (by omega)))
    · refine ⟨h.2.2.1,?_⟩
      rw [okPs_all]
      intro p hp
      obtain ⟨i,hi⟩:=List.mem_iff_getElem?.1 hp
      have hlt:=(List.getElem?_eq_some_iff.1 hi).1
      obtain ⟨x,_,_,hx⟩:=h.2.2.2.2 i _ p (List.getElem?_eq_getElem (by omega)) hi
      exact ih p x hx
theorem look_mem {α:Type} (d:α):∀ (ks:List By) (ps:List α) (q:By),ks.length=ps.length→q∈ks→∃ i:Nat,ks[i]?=some q∧ps[i]?=some (look d ks ps q):=by
  intro ks
  induction ks with
  | nil=>intro ps q _ h;simp at h
  | cons k ks ih =>
    intro ps q hl hq
    cases ps with
    | nil=>simp at hl
    | cons p ps =>
      by_cases hk:k=q
      · exact ⟨0,by simp [hk],by simp [look,hk]⟩
      · rcases List.mem_cons.1 hq with e | e
        · exact absurd e.symm hk
        · obtain ⟨i,h1,h2⟩:=ih ps q (by simpa using hl) e
          exact ⟨i + 1,by simpa using h1,by simpa [look,hk] using h2⟩
theorem mem_sort {k:By} {ks:List By} : k∈ks.mergeSort leBy↔k∈ks:=(List.mergeSort_perm ks leBy).mem_iff
mutual
theorem okP_sort:∀ p,okP p→okP (sortP p)
  | .arr kids,h=>by simp only [sortP,okP] at h ⊢;exact okPs_sort kids h
  | .dict keys kids,h=>by
    simp only [sortP,okP] at h ⊢
    refine ⟨by simp,?_⟩
    have h2:=okPs_sort kids h.2
    rw [okPs_all] at h2 ⊢
    intro p hp
    rw [List.mem_map] at hp
    obtain ⟨k,hk,rfl⟩:=hp
    rw [mem_sort] at hk
    obtain ⟨i,_,hi⟩:=look_mem (.null:PO) keys (sortPs kids) k (by rw [sortPs_map];simpa using h.1) hk
    exact h2 _ (List.mem_of_getElem? hi)
  | .null,h=>h
  | .bool _,h=>h
  | .int _,h=>h
  | .real _,h=>h
  | .lit _,h=>h
  | .hexl _,h=>h
  | .name _,h=>h
  | .ref _ _,h=>h
theorem okPs_sort:∀ l,okPs l→okPs (sortPs l)
  | [],h=>h
  | p::ps,h=>by simp only [sortPs,okPs] at h ⊢;exact ⟨okP_sort p h.1,okPs_sort ps h.2⟩
end
theorem val_null {nn:Nat→Prop} {n:Nat} {p:PO} {x:PV} (h:Corr nn n p x):(valP (sortP p)).isNull=x.isNull:=by
  cases n with
  | zero=>simp [Corr] at h
  | succ n=>cases p<;>cases x<;>simp only [Corr] at h<;>first | exact h.elim | rfl
theorem nnz_all {l:List PV} (h:∀ x∈l,x.isNull=false):nnz l=l.length:=by
  unfold nnz
  rw [List.filter_eq_self.2 (by intro x hx;simp [h x hx])]
theorem zip_nnz:∀ (ks:List By) (xs:List PV),ks.length=xs.length→((ks.zip xs).filter fun e=>!e.2.isNull).length=nnz xs:=by
  intro ks
  induction ks with
  | nil=>intro xs h;cases xs with | nil=>rfl | cons _ _=>simp at h
  | cons k ks ih =>
    intro xs h
    cases xs with
    | nil=>simp at h
    | cons x xs =>
      have:=ih xs (by simpa using h)
      unfold nnz at this ⊢
      cases hx:x.isNull<;>simp [hx,this]
theorem nodup_first {α:Type} [DecidableEq α] {l:List α} (h:l.Nodup) {j:Nat} {k:α} (hj:l[j]?=some k):∀ j',j' < j→l[j']?≠some k:=by
  intro j' hlt e
  have h1:=(List.getElem?_eq_some_iff.1 hj)
  have h2:=(List.getElem?_eq_some_iff.1 e)
  have:=(List.getElem_inj (i:=j') (j:=j) (h₀:=h2.1) (h₁:=h1.1) h).1 (h2.2.trans h1.2.symm)
  omega
theorem Corr.same {nn:Nat→Prop} {eqv:Nat→Nat→Prop} (he:∀ x,nn x→eqv x x):∀ (n:Nat) (p:PO) (x:PV),Corr nn n p x→SameN eqv n (valP (sortP p)) x:=by
  intro n
  induction n with
  | zero=>intro p x h;simp [Corr] at h
  | succ n ih =>
    intro p x h
    cases p<;>cases x<;>simp only [Corr] at h<;>try exact h.elim
    all_goals simp only [sortP,valP,SameN]
    · exact h.symm
    · exact h.1
    · exact h.1 ▸ he _ h.2
    · simp only [litT,h]
    · simp only [hexT,h.2]
    · exact h.1
    · exact ⟨h.1,h.2.1⟩
    · rename_i ps xs
      rw [valPs_map,sortPs_map]
      refine ⟨by simpa using h.1,fun i a b ha hb=>?_⟩
      rw [List.map_map,List.getElem?_map] at ha
      obtain ⟨p,hp,rfl⟩:=Option.map_eq_some_iff.1 ha
      exact ih p b (h.2 i p b hp hb)
    · rename_i ks ps keys xs
      obtain ⟨hnd,hl1,hl2,hks,hall⟩:=h
      rw [valPs_map,sortPs_map]
      have hlk:∀ k∈ks,∃ x p,look PO.null ks (ps.map sortP) k=sortP p∧(k,x)∈keys.zip xs∧x.isNull=false∧Corr nn n p x:=by
        intro k hk
        obtain ⟨i,h1,h2⟩:=look_mem (.null:PO) ks (ps.map sortP) k (by simpa using hl2) hk
        rw [List.getElem?_map] at h2
        obtain ⟨p,hp,e⟩:=Option.map_eq_some_iff.1 h2
        obtain ⟨x,h3,h4,h5⟩:=hall i k p h1 hp
        exact ⟨x,p,e.symm,h3,h4,h5⟩
      refine ⟨by simp,hl1,?_,fun i k a hk ha hna=>?_⟩
      · rw [nnz_all,←zip_nnz keys xs hl1]
        · rw [List.length_map,List.length_map,List.length_mergeSort,hks,List.length_map]
        · intro y hy
          rw [List.map_map,List.mem_map] at hy
          obtain ⟨k,hk,rfl⟩:=hy
          rw [mem_sort] at hk
          obtain ⟨x,p,e,_,hx,hc⟩:=hlk k hk
          show (valP (look PO.null ks (ps.map sortP) k)).isNull=false
          rw [e,val_null hc,hx]
      · have hk2:k∈ks:=mem_sort.1 (List.mem_of_getElem? hk)
        obtain ⟨x,p,e,hmem,hx,hc⟩:=hlk k hk2
        rw [List.map_map,List.getElem?_map,hk] at ha
        have ha:valP (look PO.null ks (ps.map sortP) k)=a:=by simpa using ha
        rw [e] at ha
        subst ha
        obtain ⟨j,hj⟩:=List.mem_iff_getElem?.1 hmem
        rw [List.getElem?_zip_eq_some] at hj
        exact ⟨j,x,hj.1,nodup_first hnd hj.1,hj.2,hx,ih p x hc⟩
end Go.Proofs.YtfkecmlmnhbmoaaGreatDoor
