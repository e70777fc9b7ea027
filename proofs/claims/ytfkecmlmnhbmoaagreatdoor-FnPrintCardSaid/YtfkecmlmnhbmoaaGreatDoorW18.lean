/- Parts F10. -/
import Derived.Test.YtfkecmlmnhbmoaaGreatDoorW17
set_option linter.unusedVariables false
set_option linter.unusedSimpArgs false
set_option maxRecDepth 100000
set_option maxHeartbeats 40000000
namespace Go.Proofs.YtfkecmlmnhbmoaaGreatDoor
open Go Go.RowKit
theorem wp_scope_fwd {P:Program}{a:Act}{w:World}{Q:Exit→Act→World→Prop}{c rest:Code}(l:Nat)(hf:findLabel c l=some rest)
  (first:c.wp P (Exit.jump l (fun a w=>rest.wp P (Exit.noGoto Q) a w) Q) a w):(Code.scope c).wp P Q a w:=by
 refine wp_scope_jumps l (fun a w=>rest.wp P (Exit.noGoto Q) a w) (fun _ _=>0) hf first ?_
 intro a w h;refine wp_mono h ?_;intro e a w hq
 cases e with
 | goto l'=>exact hq.elim
 | normal=>exact hq
 | exit id=>exact hq
 | ret=>exact hq
 | panic ch=>exact hq
 | outgrown=>exact hq
structure FInit (W0:World):Prop where
 opt:W0.cell? ⟨4,0,Option.none⟩=some (.bool true)
 f0:W0.cell? ⟨11,0,Option.none⟩=some (.int .u64 52)
 f1:W0.cell? ⟨11,1,Option.none⟩=some (.int .u64 11)
 f2:W0.cell? ⟨11,2,Option.none⟩=some (.int .i64 (-1023))
 pt:∃pb po pc,W0.cell? ⟨19,0,Option.none⟩=some (.slice (some ⟨pb,po,Option.none⟩) 9 pc)∧∀d:Nat,d<9→W0.cell? ⟨pb,po+d,Option.none⟩=some (.int .i64 (ptab d))
 lc:∀k,1≤k→k≤60→LcAt W0 k
theorem LcAt.env {W0 w:World}{k:Nat}(h:LcAt W0 k)(hE:Env W0 w):LcAt w k:=by
 obtain⟨lb,lo,cap,h1,h2,h3⟩:=h;exact⟨lb,lo,cap,hE.cell h1,hE.cell h2,hE.cell h3⟩
theorem DecN.cells {w:World}{b N:Nat}{dp:Int}{neg tr:Bool}(h:DecN w b N dp neg tr):w.cell? ⟨b,800,none⟩=some (.int .i64 (numD N:Nat))∧w.cell? ⟨b,801,none⟩=some (.int .i64 dp)∧w.cell? ⟨b,802,none⟩=some (.bool neg)∧w.cell? ⟨b,803,none⟩=some (.bool tr)∧(∀i,w.frozen? ⟨b,i,none⟩=false):=by
 obtain⟨_,A,h,_,_⟩:=h;exact h.cells
theorem DecN.first {w:World}{b N:Nat}{dp:Int}{neg tr:Bool}(h:DecN w b N dp neg tr)(hN:N≠0):∃c:UInt8,w.cell? ⟨b,0,none⟩=some (.int .u8 (c.toNat:Int))∧(ledB N 5=true↔c.toNat<53):=by
 obtain⟨h8,A,h,hds,hdv⟩:=h;have h1:=numD_pos1 hN;obtain⟨c,hc,cd⟩:=h.digE (i:=0) (by omega);refine⟨c,cd,?_⟩;have h2:=pdN_digit (r:=0) (by have:=h.1;omega) hds hdv (by omega);rw[hc,pdN_zero]at h2;have h3:pdN N 1=N/10^(numD N-1):=by unfold pdN;rw[if_pos h1]
 obtain⟨h4,h5,h6⟩:=h2;rw[Nat.zero_add]at h4;rw[h3]at h4;unfold ledB;simp only[decide_eq_true_eq];rw[←Nat.div_lt_iff_lt_mul (pow10_pos _)];omega
theorem dnL_stop {m n:Nat}{dp ex:Int}(h:¬0<dp):dnL m n dp ex=(n,dp,ex):=by cases m<;>simp[dnL,h]
theorem dnL_step {m n:Nat}{dp ex:Int}(h:0<dp):dnL (m+1) n dp ex=dnL m (rsN (ptab dp) n) (rsP (ptab dp) n dp) (ex+ptab dp):=by simp[dnL,h]
theorem upL_stop {m n:Nat}{dp ex:Int}(h:upC n dp=false):upL m n dp ex=(n,dp,ex):=by cases m<;>simp[upL,h]
theorem upL_step {m n:Nat}{dp ex:Int}(h:upC n dp=true):upL (m+1) n dp ex=upL m (lsN (ptab (-dp)) n) (lsP (ptab (-dp)) n dp) (ex-ptab (-dp)):=by simp[upL,h]
theorem rsP_ge {k n:Nat}{dp:Int}(h0:n≠0):dp-k≤rsP k n dp:=by
 have:=numD_mono (a:=n) (b:=n*5^k) (Nat.le_mul_of_pos_right _ (Nat.pos_iff_ne_zero.2 (pow5_ne k)));unfold rsP;omega
theorem ptab_le (dp:Int):ptab dp≤27:=by unfold ptab;split<;>omega
theorem shr_z (w:World)(b N:Nat)(dp:Int)(neg tr:Bool)(k:Nat)(z:Int)(hz:z=-(k:Int))(hk1:1≤k)(hk2:k≤60)(hD:DecN w b N dp neg tr)(hnd:numD N+k≤799)(hN:N≠0)(hdp1:-100000≤dp)(hdp2:dp≤100000) :
  Calls Tryz.prog 123 #[.pointer (some ⟨b,0,none⟩),.int .i64 z] w fun e w'=>e=.returned (.tuple #[])∧DecN w' b (rsN k N) (rsP k N dp) neg tr∧w.grownBy w' (some b):=by
 subst hz;exact shr_any w b N dp neg tr k hk1 hk2 hD hnd hN hdp1 hdp2
theorem shl_z (w:World)(b N:Nat)(dp:Int)(neg tr:Bool)(k:Nat)(z:Int)(hz:z=(k:Int))(hk1:1≤k)(hk2:k≤60)(hLc:LcAt w k)(hD:DecN w b N dp neg tr)(hnd:numD N+k≤799)(hN:N≠0)(hdp1:-100000≤dp)(hdp2:dp≤100000) :
  Calls Tryz.prog 123 #[.pointer (some ⟨b,0,none⟩),.int .i64 z] w fun e w'=>e=.returned (.tuple #[])∧DecN w' b (lsN k N) (lsP k N dp) neg tr∧w.grownBy w' (some b):=by
 subst hz;exact shl_any w b N dp neg tr k hk1 hk2 hLc hD hnd hN hdp1 hdp2
def fbBits (M:Nat)(E:Int)(neg:Bool):Int :=
 if neg then bits .or .u64 (bits .or .u64 (bits .and .u64 (M:Int) 4503599627370495) (IntKind.u64.wrap (IntKind.u64.wrap (bits .and .i64 (E+1023) 2047)*4503599627370496))) 9223372036854775808
 else bits .or .u64 (bits .and .u64 (M:Int) 4503599627370495) (IntKind.u64.wrap (IntKind.u64.wrap (bits .and .i64 (E+1023) 2047)*4503599627370496))
def fbFin (M:Nat)(E:Int)(neg:Bool):Int:=if (bits .and .u64 (M:Int) 4503599627370496==0)=true then fbBits M (-1023) neg else fbBits M E neg
def fbTail (M:Nat)(E:Int)(neg:Bool):Int:=fbFin (if M=9007199254740992 then M/2 else M) (if M=9007199254740992 then E+1 else E) neg
def fbRes (N:Nat)(dp:Int)(neg:Bool):Int :=
 fbTail (rintN (lsN 53 (upL 224 (dnL 59 N dp 0).1 (dnL 59 N dp 0).2.1 (dnL 59 N dp 0).2.2).1) (lsP 53 (upL 224 (dnL 59 N dp 0).1 (dnL 59 N dp 0).2.1 (dnL 59 N dp 0).2.2).1 0).toNat false)
  ((upL 224 (dnL 59 N dp 0).1 (dnL 59 N dp 0).2.1 (dnL 59 N dp 0).2.2).2.2-1) neg
theorem fbRes_eq {N n n' dq M:Nat}{dp d ex ex':Int}{neg:Bool}(h1:dnL 59 N dp 0=(n,d,ex))(h2:upL 224 n d ex=(n',0,ex'))(h3:lsP 53 n' 0=dq)(h4:M=rintN (lsN 53 n') dq false):fbRes N dp neg=fbTail M (ex'-1) neg:=by
 unfold fbRes;rw[h1];simp only[];rw[h2];simp only[];rw[h3,h4,Int.toNat_natCast]
theorem potU_le (n:Nat){dp:Int}(h:-60≤dp):potU n dp≤224:=by
 have:=potL_le n;unfold potU
 repeat' split
 all_goals omega
theorem fb_any (W0 w:World)(hF:FInit W0)(hE:Env W0 w)(b N:Nat)(dp:Int)(neg:Bool)(hb:W0.heap.size≤b)(hD:DecN w b N dp neg false)(hN:N≠0)(hnd:numD N≤60)(hdp1:-60≤dp)(hdp2:dp≤15)(hdp3:-48≤dp) :
  Calls Tryz.prog 150 #[.pointer (some ⟨b,0,none⟩),.pointer (some ⟨11,0,none⟩)] w fun e w'=>e=.returned (.tuple #[.int .u64 (fbRes N dp neg),.bool false])∧w.grownBy w' (some b):=by
 generalize hX:fbRes N dp neg=X;have HX:=xhd hX;clear hX
 have hd0:(((numD N:Nat):Int)==0)=false:=by have:=numD_pos1 hN;simp;omega
 obtain⟨c0,c1,c2,c3,cf⟩:=hD.cells;have hdp310:¬310<dp:=by omega
 have hdp330:¬dp < -330:=by omega
 have e1:=hE.cell hF.f0;have e2:=hE.cell hF.f1;have e3:=hE.cell hF.f2;obtain⟨HF,HE,HD,HN⟩:=xh4 hF hE hD hN;clear hF hE hD hN
 obtain⟨R1,hR1⟩:∃R1,R1=dnL 59 N dp 0:=⟨_,rfl⟩;have hpt0:potD N dp≤59:=by unfold potD;(repeat' split)<;>omega
 have hpt1:dp-potD N dp≥-60:=by
  by_cases h:0<dp
  ·omega
  ·have:potD N dp=0:=by unfold potD;rw[if_pos (by omega)]
   omega
 obtain⟨HR1,Hpt0,Hpt1⟩:=xh3 hR1 hpt0 hpt1;clear hR1 hpt0 hpt1
 obtain⟨g0,hg0⟩:∃g0,g0=potD N dp:=⟨_,rfl⟩;have Hg0:=xhd hg0;clear hg0;go_enter Tryz.func150,Tryz.ntmps150;go_wp2_with fail
 refine wp_scope_fwd 0 (by rfl) ?_;go_wp2_with fail
 clear c0 c1 c2 c3 cf hd0 hdp310 hdp330 e1 e2 e3
 go_loopg [6] g0 (fun g t6 wr=>∃(n m:Nat) (d ex:Int),t6=.int .i64 ex∧g=potD n d∧potD n d≤m∧dnL m n d ex=R1∧numD n+potD n d≤119∧d≤15∧-60≤d-potD n d∧ex+potD n d≤59∧0≤ex∧n≠0∧DecN wr b n d neg false∧w.grownBy wr (some b))
 case atStart=>exact⟨N,59,dp,0,rfl,Hg0.out,Hpt0.out,HR1.out.symm,by have:=Hpt0.out;omega,hdp2,Hpt1.out,by have:=Hpt0.out;omega,by omega,HN.out,HD.out,xgr _ _⟩
 case round =>
  clear HD HN;obtain⟨n,m,d,ex,rfl,hg,hm,hL,hnp,hd1,hd2,hex,hex0,hn0,hD,hG⟩:=hrel;obtain⟨c0,c1,c2,c3,cf⟩:=hD.cells;have HE2:=xhd (HE.out.grown hG (fun k hk=>by injection hk with hk;omega));obtain⟨pb,po,pc,cp0,cp1⟩:=HF.out.pt;replace cp0:=HE2.out.cell cp0;have hnd9:numD n≤119:=by omega
  have hexr:ex≤59:=by omega
  have hdr:-60≤d:=by omega
  obtain⟨Hg,Hm,HL,Hnp,Hd2,Hex,Hn0,HD⟩:=xh8 hg hm hL hnp hd2 hex hn0 hD;clear hg hm hL hnp hd2 hex hn0 hD
  have HG:=xhd hG;clear hG
  by_cases hp:0<d
  ·have hst:=potD_step Hn0.out hp (by omega)
   have hpl:=ptab_le d;have hrg:=rsP_ge (k:=ptab d) (dp:=d) Hn0.out
   by_cases h9:9≤d
   ·have Hst:=xhd hst;clear hst
    clear hpl hrg cp1;go_wp2_with fail
    go_quiet (fail);go_wp2_with fail
    have hpb:ptab d=27:=ptab_big h9;refine(shr_z _ b n d neg false 27 _ (by omega) (by omega) (by omega) (by exact HD.out) (by omega) Hn0.out (by omega) (by omega)).mono ?_;rintro e w1⟨rfl,hD1,hG1⟩;rw[←hpb]at hD1;obtain⟨HD1,HG1,Hpb⟩:=xh3 hD1 hG1 hpb;clear hD1 hG1 hpb
    go_wp2_with fail
    go_roundg (potD (rsN (ptab d) n) (rsP (ptab d) n d))
    case measure=>rw[Hg.out];have:=Hst.out;omega
    case rel =>
     have hst:=Hst.out;have hm1:=Hm.out;obtain⟨m',rfl⟩:∃m',m=m'+1:=⟨m-1,by omega⟩;have h6:=rsN_numD (k:=ptab d) Hn0.out;have h7:=rsP_ge (k:=ptab d) (dp:=d) Hn0.out;have h8:=Hpb.out;have h9':=Hnp.out;have h10:=Hd2.out;have h11:=Hex.out;refine⟨_,m',_,ex+27,rfl,rfl,by omega,?_,by omega,by omega,by omega,by omega,by omega,rsN_pos Hn0.out,HD1.out,(gr_drewN HG.out _).trans HG1.out⟩;rw[←HL.out,dnL_step hp,h8]
     try rfl
   ·obtain⟨dn,rfl⟩:∃dn:Nat,d=dn:=⟨d.toNat,by omega⟩
    replace cp1:=HE2.out.cell (cp1 dn (by omega));obtain⟨pk,hpk⟩:∃pk,pk=ptab dn:=⟨_,rfl⟩;rw[←hpk]at cp1 hpl;have hpk1:1≤pk:=by omega
    have Hst:=xhd hst;clear hst
    clear hrg;have Hpk:=xhd hpk;clear hpk
    go_wp2_with fail
    go_quiet (fail);go_wp2_with fail
    go_quiet (fail);go_wp2_with fail
    refine(shr_z _ b n dn neg false pk _ (by omega) (by omega) (by omega) (by exact HD.out) (by omega) Hn0.out (by omega) (by omega)).mono ?_;rintro e w1⟨rfl,hD1,hG1⟩;rw[Hpk.out]at hD1;obtain⟨HD1,HG1⟩:=xh2 hD1 hG1;clear hD1 hG1
    have Hpb:=xhd (show ptab dn=pk from Hpk.out.symm);go_wp2_with fail
    go_roundg (potD (rsN (ptab (dn:Int)) n) (rsP (ptab (dn:Int)) n (dn:Int)))
    case measure=>rw[Hg.out];have:=Hst.out;omega
    case rel =>
     have hst:=Hst.out;have hm1:=Hm.out;obtain⟨m',rfl⟩:∃m',m=m'+1:=⟨m-1,by omega⟩;have h6:=rsN_numD (k:=ptab (dn:Int)) Hn0.out;have h7:=rsP_ge (k:=ptab (dn:Int)) (dp:=(dn:Int)) Hn0.out;have h8:=Hpb.out;have h9':=Hnp.out;have h10:=Hd2.out;have h11:=Hex.out;refine⟨_,m',_,ex+pk,rfl,rfl,by omega,?_,by omega,by omega,by omega,by omega,by omega,rsN_pos Hn0.out,HD1.out,(gr_drewN HG.out _).trans HG1.out⟩;rw[←HL.out,dnL_step hp,h8]
     try rfl
  ·have hR1:R1=(n,d,ex):=by rw[←HL.out,dnL_stop hp]
   have HR1b:=xhd hR1;clear hR1
   clear cp0 cp1;have hd0:d≤0:=by omega
   obtain⟨R2,hR2⟩:∃R2,R2=upL 224 n d ex:=⟨_,rfl⟩;have hpu:=potU_le n (dp:=d) (by omega);obtain⟨Hpu,HR2⟩:=xh2 hpu hR2;clear hpu hR2
   obtain⟨gu,hgu⟩:∃gu,gu=potU n d:=⟨_,rfl⟩;have Hgu:=xhd hgu;clear hgu;go_wp2_with fail
   go_loopg [6] gu (fun g t6 wr=>∃(n m:Nat) (d ex:Int),t6=.int .i64 ex∧g=potU n d∧potU n d≤m∧upL m n d ex=R2∧numD n+potU n d≤343∧d≤0∧-60≤d∧-224≤ex-potU n d∧ex≤59∧n≠0∧DecN wr b n d neg false∧w.grownBy wr (some b))
   case atStart=>exact⟨n,224,d,ex,rfl,Hgu.out,Hpu.out,HR2.out.symm,by have:=Hpu.out;omega,hd0,hdr,by have:=Hpu.out;omega,hexr,Hn0.out,HD.out,HG.out⟩
   case round =>
    clear HD HG c0 c1 c2 c3 cf HE2 Hg Hm HL Hnp Hd2 Hex Hn0 Hpu Hgu hex0 hnd9 hexr hdr;obtain⟨n',m',d',ex',rfl,hg,hm,hL,hnp,hd1,hd2,hex,hex2,hn0,hD,hG⟩:=hrel;obtain⟨c0,c1,c2,c3,cf⟩:=hD.cells;obtain⟨cfd,cfd1,cfd2⟩:=hD.first hn0
    have HE2:=xhd (HE.out.grown hG (fun k hk=>by injection hk with hk;omega));obtain⟨pb,po,pc,cp0,cp1⟩:=HF.out.pt;replace cp0:=HE2.out.cell cp0;have hnd9:numD n'≤343:=by omega
    have hexr:-224≤ex':=by omega
    obtain⟨Hg,Hm,HL,Hnp,Hex,Hn0,HD,HG⟩:=xh8 hg hm hL hnp hex hn0 hD hG;clear hg hm hL hnp hex hn0 hD hG
    have Cfd2:=xhd cfd2;clear cfd2
    by_cases hup:upC n' d'=true
    ·have hst:=potU_step Hn0.out hup
     have hpl:=ptab_le (-d')
     by_cases h9:d'≤-9
     ·have Hst:=xhd hst;clear hst
      have Hup:=xhd hup;clear hup
      clear hpl cp1 cfd1;go_wp2_with fail
      go_quiet (fail);go_wp2_with fail
      have hpb:ptab (-d')=27:=ptab_big (by omega);refine(shl_z _ b n' d' neg false 27 _ (by omega) (by omega) (by omega) (by exact(HF.out.lc 27 (by omega) (by omega)).env HE2.out) (by exact HD.out) (by omega) Hn0.out (by omega) (by omega)).mono ?_;rintro e w1⟨rfl,hD1,hG1⟩;rw[←hpb]at hD1;obtain⟨HD1,HG1,Hpb⟩:=xh3 hD1 hG1 hpb;clear hD1 hG1 hpb
      go_wp2_with fail
      go_roundg (potU (lsN (ptab (-d')) n') (lsP (ptab (-d')) n' d'))
      case measure=>rw[Hg.out];have:=Hst.out;have:=Hpb.out;omega
      case rel =>
       have hst:=Hst.out;have hm1:=Hm.out;obtain⟨m9,rfl⟩:∃m9,m'=m9+1:=⟨m'-1,by have:=Hpb.out;omega⟩;have h6:=lsN_numD (k:=27) Hn0.out;have h8:=Hpb.out;have h9':=Hnp.out;have h11:=Hex.out;have H1:=HD1.out;rw[h8]at hst H1;refine⟨_,m9,_,ex'-27,rfl,by rw[h8],by omega,?_,by omega,by omega,by omega,by omega,by omega,lsN_pos Hn0.out,H1,(gr_drewN HG.out _).trans HG1.out⟩;rw[←HL.out,upL_step Hup.out,h8]
       try rfl
     ·by_cases h0:d'<0
      ·obtain⟨dn,hdn⟩:∃dn:Nat,-d'=dn:=⟨(-d').toNat,by omega⟩
       replace cp1:=HE2.out.cell (cp1 dn (by omega));obtain⟨pk,hpk⟩:∃pk,pk=ptab dn:=⟨_,rfl⟩;have hpk9:pk=ptab (-d'):=by rw[hpk,hdn]
       rw[←hpk]at cp1;rw[←hpk9]at hpl;have hpk1:1≤pk:=by rw[hpk9];exact hst.2.1
       obtain⟨Hst,Hup,Hpk⟩:=xh3 hst hup hpk9;clear hst hup hpk9
       clear cfd1 hpk;have Hdn:=xhd hdn;have hdn9:dn<9:=by omega
       go_wp2_with fail
       go_quiet (fail);go_wp2_with fail
       go_quiet (fail);go_wp2_with fail
       refine(shl_z _ b n' d' neg false pk _ rfl (by omega) (by omega) (by exact(HF.out.lc pk (by omega) (by omega)).env HE2.out) (by exact HD.out) (by omega) Hn0.out (by omega) (by omega)).mono ?_;rintro e w1⟨rfl,hD1,hG1⟩;rw[Hpk.out]at hD1;obtain⟨HD1,HG1⟩:=xh2 hD1 hG1;clear hD1 hG1
       have Hpb:=xhd (show ptab (-d')=pk from Hpk.out.symm);go_wp2_with fail
       go_roundg (potU (lsN (ptab (-d')) n') (lsP (ptab (-d')) n' d'))
       case measure=>rw[Hg.out];have:=Hst.out;have:=Hpb.out;omega
       case rel =>
        have hst:=Hst.out;have hm1:=Hm.out;obtain⟨m9,rfl⟩:∃m9,m'=m9+1:=⟨m'-1,by have:=Hpb.out;omega⟩;have h6:=lsN_numD (k:=pk) Hn0.out;have h8:=Hpb.out;have h9':=Hnp.out;have h11:=Hex.out;have H1:=HD1.out;rw[h8]at hst H1;refine⟨_,m9,_,ex'-pk,rfl,by rw[h8],by omega,?_,by omega,by omega,by omega,by omega,by omega,lsN_pos Hn0.out,H1,(gr_drewN HG.out _).trans HG1.out⟩;rw[←HL.out,upL_step Hup.out,h8]
        try rfl
      ·obtain rfl:d'=0:=by omega
       replace cp1:=HE2.out.cell (cp1 0 (by omega));simp only[Nat.add_zero]at cp1;have hc53:cfd.toNat<53:=Cfd2.out.1 (by simpa[upC] using hup);obtain⟨Hst,Hup⟩:=xh2 hst hup;clear hst hup
       have Hpb:=xhd (show ptab (-0)=1 from rfl);rw[show ptab ((0:Nat):Int)=1 from rfl]at cp1;go_wp2_with fail
       go_quiet (fail);go_wp2_with fail
       go_quiet (fail);go_wp2_with fail
       refine(shl_z _ b n' 0 neg false 1 _ rfl (by omega) (by omega) (by exact(HF.out.lc 1 (by omega) (by omega)).env HE2.out) (by exact HD.out) (by omega) Hn0.out (by omega) (by omega)).mono ?_;rintro e w1⟨rfl,hD1,hG1⟩;rw[←Hpb.out]at hD1;obtain⟨HD1,HG1⟩:=xh2 hD1 hG1;clear hD1 hG1
       go_wp2_with fail
       go_roundg (potU (lsN (ptab (-0)) n') (lsP (ptab (-0)) n' 0))
       case measure=>rw[Hg.out];have:=Hst.out;have:=Hpb.out;omega
       case rel =>
        have hst:=Hst.out;have hm1:=Hm.out;obtain⟨m9,rfl⟩:∃m9,m'=m9+1:=⟨m'-1,by have:=Hpb.out;omega⟩;have h6:=lsN_numD (k:=1) Hn0.out;have h8:=Hpb.out;have h9':=Hnp.out;have h11:=Hex.out;have H1:=HD1.out;rw[h8]at hst H1;refine⟨_,m9,_,ex'-1,rfl,by rw[h8],by omega,?_,by omega,by omega,by omega,by omega,by omega,lsN_pos Hn0.out,H1,(gr_drewN HG.out _).trans HG1.out⟩;rw[←HL.out,upL_step Hup.out,h8]
        try rfl
    ·have hup2:upC n' d'=false:=by simpa using hup
     have hR2:R2=(n',d',ex'):=by rw[←HL.out,upL_stop hup2]
     obtain rfl:d'=0:=by
      unfold upC at hup2;simp at hup2;omega
     have hc53:¬cfd.toNat<53:=by
      intro h;have:=Cfd2.out.2 h;simp[upC,this]at hup2
     obtain⟨HR2b,Hup⟩:=xh2 hR2 hup2;clear hR2 hup2
     clear hup cp0 cp1;have e1:=HE2.out.cell HF.out.f0;have e2:=HE2.out.cell HF.out.f1;have e3:=HE2.out.cell HF.out.f2;go_wp2_with fail
     go_quiet (fail);go_wp2_with fail
     have hq1:=lsP_ge (dp:=0) (k:=53) (c:=15) Hn0.out (by decide);have hq2:=lsP_le (n:=n') (dp:=0) (k:=53) (c:=16) (by decide);refine(shl_z _ b n' 0 neg false 53 _ rfl (by omega) (by omega) (by exact(HF.out.lc 53 (by omega) (by omega)).env HE2.out) (by exact HD.out) (by omega) Hn0.out (by omega) (by omega)).mono ?_;rintro e w1⟨rfl,hD1,hG1⟩;obtain⟨dq,hdq⟩:∃dq:Nat,lsP 53 n' 0=dq:=⟨(lsP 53 n' 0).toNat,by omega⟩;rw[hdq]at hD1 hq1 hq2;obtain⟨n3,hn3⟩:∃n3,n3=lsN 53 n':=⟨_,rfl⟩;rw[←hn3]at hD1;clear c0 c1 c2 c3 cf;obtain⟨c0,c1,c2,c3,cf⟩:=hD1.cells;have HG1:=xhd ((gr_drewN HG.out nq).trans hG1);have HE3:=xhd (HE.out.grown HG1.out (fun k hk=>by injection hk with hk;omega));clear hG1 HE2 e1 e2 e3;have e1:=HE3.out.cell HF.out.f0;have e2:=HE3.out.cell HF.out.f1;have e3:=HE3.out.cell HF.out.f2;obtain⟨HD1,Hdq,Hn3⟩:=xh3 hD1 hdq hn3;clear hD1 hdq hn3
     go_wp2_with fail
     refine(rint_any _ b n3 dq neg false (by omega) (by exact HD1.out)).mono ?_;rintro e w2⟨rfl,nm,rfl⟩;obtain⟨M,hM⟩:∃M,M=rintN n3 dq false:=⟨_,rfl⟩;rw[←hM];have HM:=xhd hM;clear hM
     have HXM:=xhd (show X=fbTail M (ex'-1) neg by rw[←HX.out];exact fbRes_eq (HR1.out.symm.trans HR1b.out) (HR2.out.symm.trans HR2b.out) Hdq.out (by rw[HM.out,Hn3.out]))
     by_cases hM2:M=9007199254740992
     ·have hMb:((M:Int)==9007199254740992)=true:=by simp;omega
      obtain⟨M',hM'⟩:∃M',M'=M/2:=⟨_,rfl⟩;have hMi:(M:Int)/2=(M':Int):=by omega
      have HXF:=xhd (show X=fbFin M' ex' neg by rw[HXM.out];unfold fbTail;rw[if_pos hM2,if_pos hM2,←hM',show ex'-1+1=ex' by omega]);obtain⟨HM2,HM'⟩:=xh2 hM2 hM';clear hM2 hM'
      rcases xbt (bits BinOp.and IntKind.u64 (M':Int) 4503599627370496==0) with hz|hz
      all_goals
       cases neg
       all_goals
        have HXG:=xhd HXF.out;clear HXF;go_wp2_with fail
        go_quiet (fail);go_wp2_with fail
        refine wp_goto (And.intro rfl ?_);go_wp2_with fail
        go_quiet (fail);go_wp2_with fail
        try go_quiet (fail);go_wp2_with fail
        rw[Exit.noGoto_ret];go_ret2;rw[HXG.out];unfold fbFin fbBits;simp only[hz,if_true,Bool.false_eq_true,if_false];refine⟨by first|rfl|simp,?_⟩
        repeat (first|exact HG1.out|apply gr_drewN)
     ·have hMb:((M:Int)==9007199254740992)=false:=by simp;omega
      have HXF:=xhd (show X=fbFin M (ex'-1) neg by rw[HXM.out];unfold fbTail;rw[if_neg hM2,if_neg hM2]);have HM2:=xhd hM2;clear hM2
      rcases xbt (bits BinOp.and IntKind.u64 (M:Int) 4503599627370496==0) with hz|hz
      all_goals
       cases neg
       all_goals
        have HXG:=xhd HXF.out;clear HXF;go_wp2_with fail
        refine wp_goto (And.intro rfl ?_);go_wp2_with fail
        go_quiet (fail);go_wp2_with fail
        try go_quiet (fail);go_wp2_with fail
        rw[Exit.noGoto_ret];go_ret2;rw[HXG.out];unfold fbFin fbBits;simp only[hz,if_true,Bool.false_eq_true,if_false];refine⟨by first|rfl|simp,?_⟩
        repeat (first|exact HG1.out|apply gr_drewN)
end Go.Proofs.YtfkecmlmnhbmoaaGreatDoor
