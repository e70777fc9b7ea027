/- FnParse: the texts F8 B2a B2b of the workbench, laid together. -/
import Derived.Test.YtfkecmlmnhbmoaaGreatDoorProg
import Derived.WalkKit
import Derived.WalkLawsBesides
import Derived.WalkSpells
import Derived.BigQuiet
import Derived.BigRegion
import Derived.Deep.QuietTactic
import Derived.Deep.RegionHeld3
import Derived.Deep.LoopGhost
import Derived.StillTailTactics
import Derived.Lib.Hide
import Derived.Laws.EntriesVeiled
import Derived.Test.YtfkecmlmnhbmoaaGreatDoorZ13
import Derived.Test.YtfkecmlmnhbmoaaGreatDoorZ19
set_option linter.unusedVariables false
set_option linter.unusedSimpArgs false
namespace Go.Proofs.YtfkecmlmnhbmoaaGreatDoor
open Go Go.RowKit
def LcAt (w:World) (k:Nat):Prop:=∃ lb lo cap,w.cell? ⟨22,0,none⟩=some (.slice (some ⟨lb,lo,none⟩) 61 cap)∧w.cell? ⟨lb,lo + k * 2,none⟩=some (.int .i64 (lcD k))∧w.cell? ⟨lb,lo + k * 2 + 1,none⟩=some (.string (lcS k))
theorem run_slice188 (w:World) (b n:Nat) (h:n≤800):(Instr.sliceAt 188 (.pointer (some ⟨b,0,none⟩)) (some (.int .i64 0)) (some (.int .i64 n)) none).run Tryz.prog w=.ok (.slice (some ⟨b,0,none⟩) n 800) w:=by
  have hal:Tryz.prog.arrayLen 188=800:=by kernel_rfl
  have ht:Tryz.prog.underlying 188=some (.array (Tryz.prog.arrayLen 188) (Tryz.prog.elem 188)):=by kernel_rfl
  have hsz:(sizeOf (Tryz.prog.elem 188)).run Tryz.prog w=.ok 1 w:=by kernel_rfl
  rw [run_sliceAt_array_lh w 188 ⟨b,0,none⟩ ht .i64 .i64 0 n (by omega) (by omega) (by rw [hal];omega),hsz]
  simp [Result.andThen,slicedAt,hal,Addr.add]
theorem mul_step {X a d k n s q r O e:Nat} (hX:X=((10 * a + d) * 2 ^ k + n) * 10 ^ e + O) (hs:s=n + d * 2 ^ k) (hq:q=s / 10) (hr:r=s % 10):X=(a * 2 ^ k + q) * 10 ^ (e + 1) + (r * 10 ^ e + O):=by
  have h1:=Nat.div_add_mod s 10
  rw [←hq,←hr] at h1
  rw [hX,Nat.pow_succ]
  have e1:(10 * a + d) * 2 ^ k + n=10 * (a * 2 ^ k + q) + r:=by
    rw [Nat.add_mul,Nat.mul_assoc]
    generalize d * 2 ^ k=y at *
    omega
  rw [e1,Nat.add_mul,Nat.mul_comm 10 (a * 2 ^ k + q),Nat.mul_assoc,Nat.mul_comm 10]
  omega
theorem mul_small {d k n s:Nat} (hd:d≤9) (hn:n < 2 ^ k) (hs:s=n + d * 2 ^ k) (hk:2 ^ k≤1152921504606846976):s / 10 < 2 ^ k∧s≤11529215046068469759:=by
  have h1:d * 2 ^ k≤9 * 2 ^ k:=Nat.mul_le_mul_right _ hd
  generalize 2 ^ k=p at *
  omega
theorem set_last {P T:By} {w:Nat} (h:P.length=w) (h1:1≤w) (x:UInt8):(P ++ T).set (w - 1) x=P.take (w - 1) ++ (x::T):=by
  rw [List.set_append_left _ _ (by omega),List.set_eq_take_append_cons_drop,if_pos (by omega),show w - 1 + 1=P.length by omega,List.drop_length]
  simp
theorem DecAt.putL {w:World} {b:Nat} {P T:By} {wv nd:Nat} {dp:Int} {neg tr:Bool} (h:DecAt w b (P ++ T) nd dp neg tr) (hp:P.length=wv) (h1:1≤wv) (h8:wv≤800) {q:Nat} (h9:q≤9) :
    DecAt (w.setCell ⟨b,wv - 1,none⟩ (.int .u8 ((q:Int) + 48))) b (P.take (wv - 1) ++ (UInt8.ofNat (q + 48)::T)) nd dp neg tr:=by
  have:=h.setDig (i:=wv - 1) (by omega) (UInt8.ofNat (q + 48))
  rw [set_last hp h1,dig_of h9] at this
  simpa using this
theorem dv_dcons {O:By} {q:Nat} (h9:q≤9):dv (UInt8.ofNat (q + 48)::O)=q * 10 ^ O.length + dv O:=by rw [dv_cons,dig_of h9,Nat.add_sub_cancel]
theorem isDs_dcons {O:By} {q:Nat} (h:isDs O) (h9:q≤9):isDs (UInt8.ofNat (q + 48)::O):=isDs_cons.2 ⟨by rw [dig_of h9];omega,h⟩
theorem pow5_mod (k:Nat):5 ^ k % 10≠0:=by
  intro h
  have h2:2 ∣ 5 ^ k:=Nat.dvd_trans (by decide:(2:Nat) ∣ 10) (Nat.dvd_of_mod_eq_zero h)
  have h3:5 ^ k % 2=1:=by rw [Nat.pow_mod];simp
  omega
set_option maxRecDepth 100000 in
set_option maxHeartbeats 40000000 in
theorem lsh_at (w:World) (b:Nat) (A:By) (nd:Nat) (dp:Int) (neg tr:Bool) (k:Nat) (hk1:1≤k) (hk2:k≤60) (hLc:LcAt w k) (hD:DecAt w b A nd dp neg tr) (hds:isDs (A.take nd)) (hnd:nd + k≤799) (hn1:1≤nd) (hN0:dv (A.take nd)≠0) (hN:numD (dv (A.take nd))=nd) (hdp1:-100000≤dp) (hdp2:dp≤100000) :
    Calls Tryz.prog 172 #[.pointer (some ⟨b,0,none⟩),.int .u64 k] w fun e w'=>e=.returned (.tuple #[])∧DecN w' b (lsN k (dv (A.take nd))) (lsP k (dv (A.take nd)) dp) neg tr∧w.grownBy w' (some b):=by
  have hA800:=hD.1
  generalize hR1:lsN k (dv (A.take nd))=R1
  generalize hR2:lsP k (dv (A.take nd)) dp=R2
  have HR1:=Lib.hid hR1;clear hR1
  have HR2:=Lib.hid hR2;clear hR2
  obtain ⟨c0,c1,c2,c3,cf⟩:=hD.cells
  obtain ⟨lb,lo,lcap,cl0,cl1,cl2⟩:=hLc
  have hlen:nd≤A.length:=by have:=hD.1;omega
  have h60:2 ^ k≤1152921504606846976:=Nat.le_trans (Nat.pow_le_pow_right (by decide) hk2) (by decide)
  have HD:=Lib.hid hD;clear hD
  have Hds:=Lib.hid hds;clear hds
  have HN0:=Lib.hid hN0;clear hN0
  have HN:=Lib.hid hN;clear hN
  have Hlen:=Lib.hid hlen;clear hlen
  have H60:=Lib.hid h60;clear h60
  obtain ⟨ld,hld⟩:∃ ld,ld=lcD k:=⟨_,rfl⟩
  rw [←hld] at cl1
  have hldk:ld≤k:=by have:=pow5_numD k hk1;unfold lcD at hld;omega
  have Hld:=Lib.hid hld;clear hld
  obtain ⟨ls,hls⟩:∃ ls,ls=lcS k:=⟨_,rfl⟩
  rw [←hls] at cl2
  have hlsL:ls.data.toList=digF 60 (5 ^ k):=by rw [hls];simp [lcS]
  have Hls:=Lib.hid hls;clear hls
  have HlsL:=Lib.hid hlsL;clear hlsL
  go_enter Tryz.func172,Tryz.ntmps172
  go_wp2_with fail
  have h5:=pow5_numD k hk1
  have hds5:=digF_spec 60 (5 ^ k) (by omega)
  have hls2:ls.size≤1000:=by have:=congrArg List.length HlsL.out;rw [hds5.2.2] at this;simp at this;omega
  have hpil:=pilB_spec (A.take nd) (digF 60 (5 ^ k)) Hds.out hds5.2.1 (.inr (by rw [hds5.1];exact pow5_mod k))
  rw [hds5.1,hds5.2.2,List.length_take,Nat.min_eq_left Hlen.out] at hpil
  have hLd:=lsh_digits (k:=k) HN0.out hk1
  rw [HN.out] at hLd
  obtain ⟨B,hB⟩:∃ B,B=pilB (A.take nd) (digF 60 (5 ^ k)):=⟨_,rfl⟩
  rw [←hB] at hpil
  rw [←Hld.out] at hLd
  have hX:∃ dl,numD (dv (A.take nd) * 2 ^ k)=nd + dl∧((B=true∧ld=dl + 1)∨(B=false∧ld=dl))∧dl≤k:=by
    have h9:nd≤numD (dv (A.take nd) * 2 ^ k):=by
      have:=numD_mono (a:=dv (A.take nd)) (b:=dv (A.take nd) * 2 ^ k) (Nat.le_mul_of_pos_right _ (Nat.pow_pos (by decide)))
      rw [HN.out] at this;exact this
    refine ⟨numD (dv (A.take nd) * 2 ^ k) - nd,by omega,?_,?_⟩
    · cases B with
      | true=>left;rw [if_pos (hpil.1 rfl)] at hLd;exact ⟨rfl,by omega⟩
      | false=>right;rw [if_neg (fun x=>by cases hpil.2 x)] at hLd;exact ⟨rfl,by omega⟩
    · split at hLd<;>omega
  clear hpil hLd h5 hds5
  obtain ⟨dl,hXd,hBd,hdlk⟩:=hX
  have HXd:=Lib.hid hXd;clear hXd
  have HB:=Lib.hid hB;clear hB
  have hsl:=fun w'=>run_slice188 w' b nd (by omega)
  go_quiet ((go_at_call 208;with_reducible exact Calls.quiet_of (pil_any _ b A nd dp neg tr (HD.out.drewN _) (by omega) 800 (by omega) ls _ HlsL.out hls2)))
  rw [←HB.out]
  clear HB
  rcases hBd with ⟨rfl,hl9⟩ | ⟨rfl,hl9⟩
  all_goals
    subst ld
    go_wp2_with fail
    go_loopg [5,6,7] nd (fun g t5 t6 t7 wr=>∃ (z:Int) (i n wv:Nat) (P O:By),t5=.int .i64 z∧z=i - 1∧t6=.int .i64 wv∧t7=.int .u64 n∧g=i∧i≤nd∧P.length=wv∧wv=i + dl∧P.take i=A.take i∧isDs O∧O.length=nd - i∧dv (A.take nd) * 2 ^ k=(dv (A.take i) * 2 ^ k + n) * 10 ^ (nd - i) + dv O∧n < 2 ^ k∧DecAt wr b (P ++ (O ++ A.drop (nd + dl))) nd dp neg tr∧w.grownBy wr (some b))
    case atStart=>exact ⟨_,nd,0,nd + dl,A.take (nd + dl),[],rfl,rfl,by go_num,rfl,rfl,Nat.le_refl _,by simp;omega,rfl,by rw [List.take_take,Nat.min_eq_left (by omega)],(fun _ h=>by cases h),by simp,by simp [dv],Nat.pow_pos (by decide),by simpa using HD.out.drewN nq,gr_drewN (World.grownBy.refl _ _) _⟩
    case round =>
      clear c0 c1 c2 c3 cf cl0 cl1 cl2
      obtain ⟨z,i,n,wv,P,O,rfl,hz,rfl,rfl,hg,hi,hPl,hwv,hPt,hOd,hOl,hX,hnk,hD2,hG⟩:=hrel
      obtain ⟨c0,c1,c2,c3,cf⟩:=hD2.cells
      have Hg:=Lib.hid hg;clear hg
      have HPl:=Lib.hid hPl;clear hPl
      have HPt:=Lib.hid hPt;clear hPt
      have HOd:=Lib.hid hOd;clear hOd
      have HOl:=Lib.hid hOl;clear hOl
      have HX:=Lib.hid hX;clear hX
      have Hnk:=Lib.hid hnk;clear hnk
      have HG:=Lib.hid hG;clear hG
      cases i with
      | zero =>
        obtain rfl:z=-1:=by omega
        have hwv1:wv≤799:=by omega
        have HD2:=Lib.hid hD2;clear hD2
        have Hwv:=Lib.hid hwv;clear hwv
        clear hz
        go_wp2_with fail
        have Hg9:=Lib.hid (show n=n from rfl)
        go_loopg [6,7] n (fun g t6 t7 wr=>∃ (n wv cc:Nat) (P O:By),t6=.int .i64 wv∧t7=.int .u64 n∧g=n∧P.length=wv∧wv + cc=nd + dl∧O.length=cc∧isDs O∧dv (A.take nd) * 2 ^ k=n * 10 ^ cc + dv O∧n≤1152921504606846976∧DecAt wr b (P ++ (O ++ A.drop (nd + dl))) nd dp neg tr∧w.grownBy wr (some b))
        case atStart=>exact ⟨n,wv,nd,P,O,rfl,rfl,Hg9.out,HPl.out,by have:=Hwv.out;omega,HOl.out,HOd.out,by have:=HX.out;rw [this];simp [dv],by have:=Hnk.out;have:=H60.out;omega,HD2.out,HG.out⟩
        case round =>
          clear Hg9 Hg HPl HPt HOd HOl HX Hnk HG HD2 Hwv hwv1 hi c0 c1 c2 c3 cf
          obtain ⟨n,wv,cc,P,O,rfl,rfl,hg,hPl,hwc,hOl,hOd,hX,hnb,hD2,hG⟩:=hrel
          obtain ⟨c0,c1,c2,c3,cf⟩:=hD2.cells
          have hOlt:=dv_lt' O hOd
          rw [hOl] at hOlt
          have Hg:=Lib.hid hg;clear hg
          have HPl:=Lib.hid hPl;clear hPl
          have HOd:=Lib.hid hOd;clear hOd
          have HOl:=Lib.hid hOl;clear hOl
          have HG:=Lib.hid hG;clear hG
          by_cases hn0:0 < n
          · have hwv2:1≤wv:=by
              have h1:10 ^ cc≤dv (A.take nd) * 2 ^ k:=by rw [hX];have:=Nat.mul_le_mul_right (10 ^ cc) hn0;omega
              have:=numD_ge_of h1
              have:=HXd.out
              omega
            have HX:=Lib.hid hX;clear hX
            have HOlt:=Lib.hid hOlt;clear hOlt
            obtain ⟨c9,hc9,cw⟩:=hD2.digE (i:=wv - 1) (by omega)
            clear hc9
            have hwv1:wv≤799:=by omega
            have hwvi:(wv:Int) - 1=((wv - 1:Nat):Int):=by omega
            have HD2:=Lib.hid hD2;clear hD2
            have Hwc:=Lib.hid hwc;clear hwc
            obtain ⟨q,hq⟩:∃ q,q=n / 10:=⟨_,rfl⟩
            obtain ⟨r,hr⟩:∃ r,r=n % 10:=⟨_,rfl⟩
            have hqi:(n:Int) / 10=(q:Int):=by omega
            have hri:(n:Int) - 10 * (q:Int)=(r:Int):=by omega
            have hr9:r≤9:=by omega
            have hq9:q≤1152921504606846976:=by omega
            have Hqn:=Lib.hid (show q < n by omega)
            have Hq:=Lib.hid hq;clear hq
            have Hr:=Lib.hid hr;clear hr
            go_wp2_with fail
            go_roundg q
            case measure=>rw [Hg.out];exact Hqn.out
            case rel =>
              refine ⟨q,wv - 1,cc + 1,P.take (wv - 1),UInt8.ofNat (r + 48)::O,rfl,rfl,rfl,by rw [List.length_take,HPl.out];omega,by have:=Hwc.out;omega,by rw [List.length_cons,HOl.out],isDs_dcons HOd.out hr9,?_,hq9,HD2.out.putL HPl.out hwv2 (by omega) hr9,(by repeat (first | exact HG.out | apply gr_set | apply gr_drewN | apply gr_drew | apply gr_alloc))⟩
              have h2:=mul_step (X:=dv (A.take nd) * 2 ^ k) (a:=0) (d:=0) (k:=k) (n:=n) (e:=cc) (O:=dv O) (by rw [HX.out];simp) (by simp) Hq.out Hr.out
              rw [h2,dv_dcons hr9,HOl.out];simp
          · obtain rfl:n=0:=by omega
            have hcc:cc=nd + dl:=by
              have h1:dv (A.take nd) * 2 ^ k < 10 ^ cc:=by rw [hX];omega
              have:=numD_le_of h1
              have:=HXd.out
              omega
            obtain rfl:wv=0:=by omega
            obtain rfl:P=[]:=List.eq_nil_of_length_eq_zero HPl.out
            have hX2:dv (A.take nd) * 2 ^ k=dv O:=by rw [hX];simp
            have HX:=Lib.hid hX;clear hX
            have HX2:=Lib.hid hX2;clear hX2
            have HOlt:=Lib.hid hOlt;clear hOlt
            have HD2:=Lib.hid hD2;clear hD2
            have Hwc:=Lib.hid hwc;clear hwc
            subst hcc
            have h800:¬800≤nd + dl:=by omega
            go_wp2_with fail
            refine (trim_any _ b (O ++ A.drop (nd + dl)) (nd + dl) (dp + dl) neg tr (by simpa using (HD2.out.setNd (nd + dl)).setDp (dp + dl)) (by omega)).mono ?_
            rintro e w9 ⟨rfl,hD9,hg9⟩
            go_wp2_with fail
            go_end0
            have hQ1:(O ++ A.drop (nd + dl)).take (nd + dl)=O:=by rw [←HOl.out];simp
            have hX0:dv (A.take nd) * 2 ^ k≠0:=Nat.mul_ne_zero HN0.out (pow2_ne k)
            have hT:=trimN_dv (nd + dl) (O ++ A.drop (nd + dl)) (by rw [List.length_append,List.length_drop,HOl.out,hA800];omega) (by rw [hQ1];exact HOd.out) (by rw [hQ1,←HX2.out];exact hX0) (by rw [hQ1,←HX2.out];exact HXd.out)
            rw [hQ1,←HX2.out,show strip (dv (A.take nd) * 2 ^ k)=R1 from HR1.out] at hT
            have hR0:R1≠0:=by rw [←HR1.out];exact strip_pos hX0
            have hR9:numD R1≠0:=by have:=numD_pos1 hR0;omega
            rw [hT.1] at hD9
            have hdp9:dpN (numD R1) (dp + dl)=R2:=by unfold dpN;rw [if_neg hR9,←HR2.out];unfold lsP;rw [HXd.out,HN.out];omega
            rw [hdp9] at hD9
            refine ⟨rfl,⟨?_,_,hD9,?_,?_⟩,(gr_set (gr_set HG.out _ _) _ _).trans hg9⟩
            · rw [←hT.1];have:=trimN_le (O ++ A.drop (nd + dl)) (nd + dl);omega
            · rw [←hT.1];exact isDs_take (n:=nd + dl) (by rw [hQ1];exact HOd.out) (trimN_le _ _)
            · rw [←hT.1];exact hT.2
      | succ i =>
        obtain rfl:z=(i:Int):=by omega
        clear hz
        obtain ⟨c,hc,cd⟩:=hD2.digE (i:=i) (by omega)
        obtain ⟨c9,hc9,cw⟩:=hD2.digE (i:=wv - 1) (by omega)
        clear hc9
        have hwv1:wv≤799:=by omega
        have hwv2:1≤wv:=by omega
        have hwvi:(wv:Int) - 1=((wv - 1:Nat):Int):=by omega
        have HD2:=Lib.hid hD2;clear hD2
        have Hwv:=Lib.hid hwv;clear hwv
        have hc5:A.getD i 0=c:=by
          rw [←hc]
          have h1:(P.take (i + 1)).getD i 0=(A.take (i + 1)).getD i 0:=by rw [HPt.out]
          have h2:∀ (L:By),(L.take (i + 1)).getD i 0=L.getD i 0:=by intro L;simp [List.getD_eq_getElem?_getD]
          rw [h2,h2] at h1
          rw [←h1]
          simp only [List.getD_eq_getElem?_getD]
          rw [List.getElem?_append_left (by rw [HPl.out,Hwv.out];omega)]
        have hc2:=isDs_at Hds.out (r:=i) (by omega) Hlen.out
        rw [hc5] at hc2
        obtain ⟨hc3,hc4⟩:=hc2
        have Hc:=Lib.hid hc;clear hc
        have Hc5:=Lib.hid hc5;clear hc5
        obtain ⟨s,hs⟩:∃ s,s=n + (c.toNat - 48) * 2 ^ k:=⟨_,rfl⟩
        have hsm:=mul_small (by omega) Hnk.out hs H60.out
        have hx:IntKind.u64.wrap ((n:Int) + IntKind.u64.wrap (((c.toNat:Int) - 48) * 2 ^ k))=(s:Int):=by
          rw [show ((c.toNat:Int) - 48)=((c.toNat - 48:Nat):Int) by omega,int_pow2,←Int.natCast_mul,IntWalk.u64_in (((c.toNat - 48) * 2 ^ k:Nat):Int) (by omega),IntWalk.u64_in _ (by omega),hs];rfl
        obtain ⟨q,hq⟩:∃ q,q=s / 10:=⟨_,rfl⟩
        obtain ⟨r,hr⟩:∃ r,r=s % 10:=⟨_,rfl⟩
        have hqi:(s:Int) / 10=(q:Int):=by omega
        have hri:(s:Int) - 10 * (q:Int)=(r:Int):=by omega
        have hr9:r≤9:=by omega
        have hs9:=hsm.2
        have hq9:q≤1152921504606846976:=by omega
        have hq2:q < 2 ^ k:=by rw [hq];exact hsm.1
        clear hsm
        have Hs:=Lib.hid hs;clear hs
        have Hq:=Lib.hid hq;clear hq
        have Hr:=Lib.hid hr;clear hr
        have Hq2:=Lib.hid hq2;clear hq2
        go_wp2_with fail
        go_roundg i
        case measure=>rw [Hg.out];omega
        case rel =>
          refine ⟨_,i,q,wv - 1,P.take (wv - 1),UInt8.ofNat (r + 48)::O,rfl,rfl,rfl,rfl,rfl,by omega,by rw [List.length_take,HPl.out];omega,by have:=Hwv.out;omega,?_,isDs_dcons HOd.out hr9,by rw [List.length_cons,HOl.out];omega,?_,Hq2.out,HD2.out.putL HPl.out hwv2 (by omega) hr9,(by repeat (first | exact HG.out | apply gr_set | apply gr_drewN | apply gr_drew | apply gr_alloc))⟩
          · have h1:=congrArg (List.take i) HPt.out
            have hw9:i≤wv - 1:=by have:=Hwv.out;omega
            simp only [List.take_take,Nat.min_eq_left (Nat.le_succ i)] at h1
            simp only [List.take_take,Nat.min_eq_left hw9,h1]
          · have h1:=HX.out
            rw [dv_take (by have:=Hlen.out;omega),Hc5.out] at h1
            have h2:=mul_step h1 Hs.out Hq.out Hr.out
            rw [h2,dv_dcons hr9,HOl.out,show nd - (i + 1) + 1=nd - i by omega]
end Go.Proofs.YtfkecmlmnhbmoaaGreatDoor
namespace Go.Proofs.YtfkecmlmnhbmoaaGreatDoor
open Go Go.RowKit
set_option maxRecDepth 100000 in
set_option maxHeartbeats 40000000 in
theorem ref_a (pf:By→Nat) (W0 w:World) (hI:Init W0) (hpf:PFC pf W0) (hE:Env W0 w) (b:Nat) (s:ByteArray) (p l:By) (deep:Int) (odd ends:Bool) (hR:RdAt w b s p l 0 deep odd ends) (hs:s.size≤140737488351240)
    (hW0:W0.heap.size≤b) (n:Int) (text:ByteArray) (tl:By) (htl:text.data.toList=tl) (hnum:numF pf tl=(2,n,0,0))
    {la:By} {oa:Bool} {gk gn st:Int} {gx:Nat} (hP1:passM false l odd=(la,oa)) (hN:numF pf (wordT la)=(gk,gn,gx,st)) (hst:(st == 1)=true) :
    Calls Tryz.prog 64 #[.pointer (some ⟨b,0,none⟩),numV 2 n 0,.string text] w fun e w'=>RefPost w w' b s deep ends e (refF pf n tl l odd):=by
  have HR:=Lib.hid hR
  have hbB:=hR.lt
  obtain ⟨c0,c1,c2,c3,c4,c5,cf⟩:=hR.cells
  have HI:=Lib.hid hI;clear hI
  have Hpf:=Lib.hid hpf;clear hpf
  have HE:=Lib.hid hE;clear hE
  have Htl:=Lib.hid htl;clear htl
  have Hnum:=Lib.hid hnum;clear hnum
  clear hR
  unfold numV
  go_enter Tryz.func64,Tryz.ntmps64
  go_wp2_with fail
  have hal:=alloc3 w (NB n) (.cells #[.int .i64 0,.int .i64 0,.int .i64 0,.float .f64 0,.string ⟨#[]⟩,.slice none 0 0,.slice none 0 0] 30 (0,0)) (.cells #[.string s,.int .i64 p.length,.int .i64 0,.int .i64 deep,.bool odd,.bool ends] 57 (0,0))
  refine (pass_any _ (w.heap.size + 1 + 1) s p l 0 deep odd ends (by exact ⟨HR.out.1,hal.2.2.1⟩) (by omega)).mono ?_
  rintro e w1 ⟨rfl,⟨p1,hA1⟩,hg1⟩
  have hI0:RefI w _ b s p l deep odd ends n p l odd:=⟨hal.2.2.2.2.but _,HR.out.grown hal.2.2.2.2 (by simp),⟨HR.out.1,hal.2.2.1⟩,hal.1,hal.2.1,hbB⟩
  have HJ:=Lib.hid (hI0.call hg1 hA1)
  clear hI0 hg1 hA1 hal c0 c1 c2 c3 c4 c5 cf
  rw [hP1] at HJ
  go_wp2_with fail
  refine (word_any _ (w.heap.size + 1 + 1) s p1 la 0 deep oa ends (by exact HJ.out.hA) (by omega)).mono ?_
  rintro e w2 ⟨rfl,hA2,hg2⟩
  have HJ2:=Lib.hid (HJ.out.call hg2 hA2)
  clear hg2 hA2 HJ
  have hsz2:(wordT la).length≤140737488351240:=by
    have:=HJ2.out.hA.size
    simp at this;omega
  generalize hsec:(⟨(wordT la).toArray⟩:ByteArray)=sec
  have hsz3:sec.size≤140737488351240:=by rw [←hsec];show (List.toArray (wordT la)).size≤140737488351240;simpa using hsz2
  have hsl:sec.data.toList=wordT la:=by rw [←hsec]
  have Hsec:=Lib.hid hsec;clear hsec
  have Hsl:=Lib.hid hsl;clear hsl
  go_wp2_with fail
  refine (number_any pf W0 _ HI.out Hpf.out (by exact HE.out.grown HJ2.out.hG (fun k hk=>by injection hk with hk;omega)) sec (wordT la) Hsl.out hsz3).mono ?_
  rintro e w3 ⟨rfl,hg3⟩
  have HJ3:=Lib.hid (HJ2.out.call0 hg3)
  clear hg3 HJ2
  rw [hN]
  have HP1:=Lib.hid hP1;clear hP1
  have HN:=Lib.hid hN;clear hN
  unfold numRet numV
  obtain ⟨c0,c1,c2,c3,c4,c5,cf⟩:=HJ3.out.hR.cells
  obtain ⟨a0,a1,a2,a3,a4,a5,af⟩:=HJ3.out.hA.cells
  obtain ⟨v0,v1,v2,v3,v4,v5,v6,vf⟩:=cells7 HJ3.out.hV
  obtain ⟨z0,z1,z2,z3,z4,z5,z6,zf⟩:=zb_cells HJ3.out.hZ
  have hb3:w.heap.size + 1 + 1 < w3.heap.size:=HJ3.out.hA.lt
  have hb4:b < w3.heap.size:=by omega
  have hb5:w.heap.size < w3.heap.size:=by omega
  have hb6:w.heap.size + 1 < w3.heap.size:=by omega
  have hres:refF pf n tl l odd=some (.int n,l,odd || wordO la oa):=by
    simp only [refF,HP1.out,HN.out,hst,if_true]
  have hn1:¬w.heap.size + 1=b:=by omega
  cases odd
  all_goals
    simp only [Bool.false_or,Bool.true_or] at hres
    go_wp2_with fail
    have Hres:=Lib.hid hres;clear hres
    have HG:=Lib.hid HJ3.out.hG
    refine bodyPost_ret (v:=valOf (.int n) nilS nilS) (by simp [results,Tryz.results64,go_sem,valOf,nilS,pvKind,pvInt,pvGen,pvReal,pvText,z0,z1,z2,z3,z4,z5,z6,hb3,hb4,hb5,hb6,hn1]) rfl ?_
    rw [Hres.out]
    refine ⟨rfl,⟨p,(by repeat (first | with_reducible exact HJ3.out.hR | with_reducible apply RdAt.alloc | with_reducible apply RdAt.set4 | ((with_reducible refine RdAt.setO ?_ ?_ _ _);rotate_left;(first | omega | (simp;omega)))))⟩,(by repeat (first | with_reducible exact HJ3.out.hG | with_reducible apply gr_alloc | with_reducible apply gr_drewN | with_reducible apply gr_drew | with_reducible apply gr_set | ((with_reducible refine gr_setM ?_ ?_ _ _);rotate_left;(first | omega | (simp;omega)))))⟩
end Go.Proofs.YtfkecmlmnhbmoaaGreatDoor
namespace Go.Proofs.YtfkecmlmnhbmoaaGreatDoor
open Go Go.RowKit
set_option maxRecDepth 100000 in
set_option maxHeartbeats 40000000 in
theorem ref_b (pf:By→Nat) (W0 w:World) (hI:Init W0) (hpf:PFC pf W0) (hE:Env W0 w) (b:Nat) (s:ByteArray) (p l:By) (deep:Int) (odd ends:Bool) (hR:RdAt w b s p l 0 deep odd ends) (hs:s.size≤140737488351240)
    (hW0:W0.heap.size≤b) (n:Int) (text:ByteArray) (tl:By) (htl:text.data.toList=tl) (hnum:numF pf tl=(2,n,0,0))
    {la:By} {oa:Bool} {gk gn st:Int} {gx:Nat} (hP1:passM false l odd=(la,oa)) (hN:numF pf (wordT la)=(gk,gn,gx,st))
    {lc:By} {oc:Bool} (hP5:passM false (wordR la) (wordO la oa)=(lc,oc)) (hW:wordT lc=[]) {O:Bool} (hO:wordO lc oc=O) (hst:(st == 1)=false) :
    Calls Tryz.prog 64 #[.pointer (some ⟨b,0,none⟩),numV 2 n 0,.string text] w fun e w'=>RefPost w w' b s deep ends e (refF pf n tl l odd):=by
  have HR:=Lib.hid hR
  have hbB:=hR.lt
  obtain ⟨c0,c1,c2,c3,c4,c5,cf⟩:=hR.cells
  have HI:=Lib.hid hI;clear hI
  have Hpf:=Lib.hid hpf;clear hpf
  have HE:=Lib.hid hE;clear hE
  have Htl:=Lib.hid htl;clear htl
  have Hnum:=Lib.hid hnum;clear hnum
  clear hR
  unfold numV
  go_enter Tryz.func64,Tryz.ntmps64
  go_wp2_with fail
  have hal:=alloc3 w (NB n) (.cells #[.int .i64 0,.int .i64 0,.int .i64 0,.float .f64 0,.string ⟨#[]⟩,.slice none 0 0,.slice none 0 0] 30 (0,0)) (.cells #[.string s,.int .i64 p.length,.int .i64 0,.int .i64 deep,.bool odd,.bool ends] 57 (0,0))
  refine (pass_any _ (w.heap.size + 1 + 1) s p l 0 deep odd ends (by exact ⟨HR.out.1,hal.2.2.1⟩) (by omega)).mono ?_
  rintro e w1 ⟨rfl,⟨p1,hA1⟩,hg1⟩
  have hI0:RefI w _ b s p l deep odd ends n p l odd:=⟨hal.2.2.2.2.but _,HR.out.grown hal.2.2.2.2 (by simp),⟨HR.out.1,hal.2.2.1⟩,hal.1,hal.2.1,hbB⟩
  have HJ:=Lib.hid (hI0.call hg1 hA1)
  clear hI0 hg1 hA1 hal c0 c1 c2 c3 c4 c5 cf
  rw [hP1] at HJ
  go_wp2_with fail
  refine (word_any _ (w.heap.size + 1 + 1) s p1 la 0 deep oa ends (by exact HJ.out.hA) (by omega)).mono ?_
  rintro e w2 ⟨rfl,hA2,hg2⟩
  have HJ2:=Lib.hid (HJ.out.call hg2 hA2)
  clear hg2 hA2 HJ
  have hsz2:(wordT la).length≤140737488351240:=by
    have:=HJ2.out.hA.size
    simp at this;omega
  generalize hsec:(⟨(wordT la).toArray⟩:ByteArray)=sec
  have hsz3:sec.size≤140737488351240:=by rw [←hsec];show (List.toArray (wordT la)).size≤140737488351240;simpa using hsz2
  have hsl:sec.data.toList=wordT la:=by rw [←hsec]
  have Hsec:=Lib.hid hsec;clear hsec
  have Hsl:=Lib.hid hsl;clear hsl
  go_wp2_with fail
  refine (number_any pf W0 _ HI.out Hpf.out (by exact HE.out.grown HJ2.out.hG (fun k hk=>by injection hk with hk;omega)) sec (wordT la) Hsl.out hsz3).mono ?_
  rintro e w3 ⟨rfl,hg3⟩
  have HJ3:=Lib.hid (HJ2.out.call0 hg3)
  clear hg3 HJ2
  rw [hN]
  have HP1:=Lib.hid hP1;clear hP1
  have HN:=Lib.hid hN;clear hN
  unfold numRet numV
  have hc9:w.heap.size + 1 + 1 < w3.heap.size:=HJ3.out.hA.lt
  have HJ4:=Lib.hid (HJ3.out.call0 (gr_alloc (World.grownBy.refl w3 none) (NG gk gn gx)))
  have HN4:=Lib.hid (heap_alloc_new w3 (NG gk gn gx))
  clear HJ3
  go_wp2_with fail
  refine (pass_any _ (w.heap.size + 1 + 1) s _ _ 0 deep _ ends (by exact HJ4.out.hA) (by omega)).mono ?_
  rintro e w5 ⟨rfl,⟨p5,hA5⟩,hg5⟩
  have HJ5:=Lib.hid (HJ4.out.call hg5 hA5)
  have HN5:=Lib.hid (keep hg5 HN4.out (by simp;omega))
  clear HJ4 HN4 hA5 hg5
  rw [hP5] at HJ5
  go_wp2_with fail
  refine (word_any _ (w.heap.size + 1 + 1) s p5 lc 0 deep oc ends (by exact HJ5.out.hA) (by omega)).mono ?_
  rintro e w6 ⟨rfl,hA6,hg6⟩
  have HJ6:=Lib.hid (HJ5.out.call hg6 hA6)
  have HN6:=Lib.hid (keep hg6 HN5.out (by simp;omega))
  clear HJ5 HN5 hA6 hg6
  have HP5:=Lib.hid hP5;clear hP5
  obtain ⟨c0,c1,c2,c3,c4,c5,cf⟩:=HJ6.out.hR.cells
  obtain ⟨a0,a1,a2,a3,a4,a5,af⟩:=HJ6.out.hA.cells
  obtain ⟨v0,v1,v2,v3,v4,v5,v6,vf⟩:=cells7 HJ6.out.hV
  obtain ⟨z0,z1,z2,z3,z4,z5,z6,zf⟩:=zb_cells HJ6.out.hZ
  obtain ⟨n0,n1,n2,n3,n4,n5,n6,nf⟩:=cells7 HN6.out
  have hb3:w.heap.size + 1 + 1 < w6.heap.size:=HJ6.out.hA.lt
  have hb4:b < w6.heap.size:=by omega
  have hb5:w.heap.size < w6.heap.size:=by omega
  have hb6:w.heap.size + 1 < w6.heap.size:=by omega
  have hn1:¬w.heap.size + 1=b:=by omega
  rw [hO] at a4 HJ6
  generalize hwd:(⟨(wordT lc).toArray⟩:ByteArray)=wd
  have hwl:wd.data.toList=wordT lc:=by rw [←hwd]
  have Hwd:=Lib.hid hwd;clear hwd
  have Hwl:=Lib.hid hwl;clear hwl
  rw [hW] at Hwl
  have HW:=Lib.hid hW;clear hW
  have HO:=Lib.hid hO;clear hO
  have hwe:wd.toList=[]:=by rw [ByteArray.toList_eq];exact Hwl.out
  have hw1:¬wd.toList=[82]:=by rw [hwe];decide
  have hres:=ref_1 (n:=n) (tl:=tl) HP1.out HN.out hst HP5.out HW.out HO.out (.inl (by decide))
  cases odd<;>cases O
  all_goals
    simp only [Bool.false_or,Bool.true_or,Bool.or_false,Bool.or_true,Bool.or_self,headIs] at hres
    go_wp2_with fail
    have Hres:=Lib.hid hres;clear hres
    refine bodyPost_ret (v:=valOf (.int n) nilS nilS) (by simp [results,Tryz.results64,go_sem,valOf,nilS,pvKind,pvInt,pvGen,pvReal,pvText,z0,z1,z2,z3,z4,z5,z6,hb3,hb4,hb5,hb6,hn1]) rfl ?_
    rw [Hres.out]
    refine ⟨rfl,⟨p,(by repeat (first | with_reducible exact HJ6.out.hR | with_reducible apply RdAt.alloc | with_reducible apply RdAt.set4 | ((with_reducible refine RdAt.setO ?_ ?_ _ _);rotate_left;(first | omega | (simp;omega)))))⟩,(by repeat (first | with_reducible exact HJ6.out.hG | with_reducible apply gr_alloc | with_reducible apply gr_drewN | with_reducible apply gr_drew | with_reducible apply gr_set | ((with_reducible refine gr_setM ?_ ?_ _ _);rotate_left;(first | omega | (simp;omega)))))⟩
end Go.Proofs.YtfkecmlmnhbmoaaGreatDoor
