/- Parts J14. -/
import Derived.Test.YtfkecmlmnhbmoaaGreatDoorW36
set_option linter.unusedVariables false
set_option linter.unusedSimpArgs false
set_option maxRecDepth 100000
set_option maxHeartbeats 40000000
namespace Go.Proofs.YtfkecmlmnhbmoaaGreatDoor
open Go Go.RowKit Go.Lib
theorem tab_env {W0 w:World}(h:TabIs Tryz.prog W0 "internal/strconv.uint64pow10" .u64 pow10Tab)(hE:Env W0 w):TabIs Tryz.prog w "internal/strconv.uint64pow10" .u64 pow10Tab:=by
 unfold TabIs World.var? at *;rw[g12]at *;simp only[Option.bind_some]at *
 have hg:12<W0.heap.size:=by
  cases hh:W0.heap[12]? with
  | none=>rw[hh]at h;cases h
  | some o=>exact(xgl hh)
 rw[hE.2 12 hg];exact h
theorem own_keptN {B:Nat}{w w':World}{v:Value}{l:By}(h:OwnB B w v l){r:Option Nat}(hg:w.grownBy w' r)(hr:∀k,v.ownBlock=some k→r≠some k):OwnB B w' v l:=by
 refine World.ownsRow.kept h hg ?_
 cases hv:v.ownBlock with
 | none=>exact .inl rfl
 | some k=>right;exact fun e=>hr k hv e.symm
theorem bl53 {m:Nat}(h1:4503599627370496≤m)(h2:m<9007199254740992):Go.Lib.bitLen m=53:=by
 have h:=Go.Lib.bitLen_shift 52 m h1 (by omega);have h3:m/2^52=1:=by simp;omega
 rw[h3]at h;rw[h];rfl
def nnP (E:Int):Int:=1+(1+E)*78913/262144+12
def nnN (E:Int):Int:=13 - -E*78913/262144
def p0E (n E:Int):Int:=n-1-E*78913/262144
def sE (p E:Int):Int:=-(E-63+p*108853/32768+3)
theorem posE:∀n:Nat,n<19→1≤nnP n∧nnP n≤18∧11≤p0E (nnP n) n∧p0E (nnP n) n≤13∧0≤sE (p0E (nnP n) n) n∧sE (p0E (nnP n) n) n<64:=by decide
theorem negE:∀n:Nat,n<43→1≤nnN (-((n:Int)+1))∧nnN (-((n:Int)+1))≤18∧11≤p0E (nnN (-((n:Int)+1))) (-((n:Int)+1))∧p0E (nnN (-((n:Int)+1))) (-((n:Int)+1))≤13∧0≤sE (p0E (nnN (-((n:Int)+1))) (-((n:Int)+1))) (-((n:Int)+1))∧sE (p0E (nnN (-((n:Int)+1))) (-((n:Int)+1))) (-((n:Int)+1))<64:=by decide
theorem ft_fast (W0:World)(hF:FInit2 W0)(hT:TabIs Tryz.prog W0 "internal/strconv.uint64pow10" .u64 pow10Tab)(x sg ef fr:Nat)(hx:x=sg*9223372036854775808+ef*4503599627370496+fr)(hs:sg≤1)(he1:980≤ef)(he:ef≤1041)(hf:fr<4503599627370496) :
  ∃(L:By) (dp:Int),isDs L∧-3000≤dp∧dp≤14∧Ft64 W0 x (ftxt (sg==1) L dp):=by
 have hfb:=run_bits64;have HT:=xhd hT;obtain⟨q1,⟨hp,q2,q2b,q3⟩,q4,hxl⟩:=parts x sg ef fr hx hs (by omega) hf;have q5:=or_one fr hf;obtain⟨mt,hmt⟩:∃mt,mt=fr+4503599627370496:=⟨_,rfl⟩;rw[←hmt]at q5;have hmt1:((mt:Int)==0)=false:=by simp;omega
 have hmt2:((mt:Int) != 0)=true:=by simp;omega
 have hmb:mt<9007199254740992:=by omega
 have Hbl:=xhd (bl53 (m:=mt) (by omega) hmb);have he3:((ef:Int)==0)=false:=by simp;omega
 have he4:((ef:Int)==2047)=false:=by simp;omega
 clear hx hmt;have hs2:sg=0∨sg=1:=by omega
 obtain⟨E,hE1⟩:∃E:Int,(ef:Int) + -1023=E:=⟨_,rfl⟩;have hE3:-43≤E:=by omega
 have hE4:E≤18:=by omega
 obtain⟨m9,hm9⟩:∃m9:Nat,m9=mt*2048:=⟨_,rfl⟩;have hm2:(mt:Int)*2048=(m9:Int):=by omega
 have hm3:m9<18446744073709551616:=by omega
 have hm4:IntKind.u64.wrap ((mt:Int)*2048)=(m9:Int):=by rw[hm2,IntKind.wrap_u64];omega
 obtain⟨ex,hex⟩:∃ex:Int,E-11-52=ex:=⟨_,rfl⟩;clear hm9
 by_cases hE0:0≤E
 ·have hk : 1 ≤ nnP E ∧ nnP E ≤ 18 ∧ 11 ≤ p0E (nnP E) E ∧ p0E (nnP E) E ≤ 13 ∧ 0 ≤ sE (p0E (nnP E) E) E ∧ sE (p0E (nnP E) E) E < 64 := by
   have:=posE E.toNat (by omega)
   rwa [show ((E.toNat:Nat):Int)=E by omega]at this
  obtain⟨k1,k2,k3,k4,k5,k6⟩:=hk;obtain⟨nn,hnn⟩:∃nn:Nat,nnP E=(nn:Int):=⟨(nnP E).toNat,by omega⟩;obtain⟨s,hs9⟩:∃s:Nat,sE (p0E (nnP E) E) E=(s:Int):=⟨(sE (p0E (nnP E) E) E).toNat,by omega⟩;obtain⟨D,P,hD0,hD1,hP0,hP1,hfw⟩:=fw_ex W0 hF hT m9 hm3 ex (p0E (nnP E) E) s nn (by omega) (by omega) (by omega) (by omega) (by rw[←hnn,←hex];unfold p0E;rw[show E-11-52+63=E by omega]) k3 k4 (by rw[←hs9,←hex];unfold sE;rw[show E-11-52=E-63 by omega]) (by omega);have hn18:nn≤18:=by omega
  have hn1:1≤nn:=by omega
  unfold nnP at hnn;obtain⟨LL,hLL⟩:∃LL:Int,(1+E)*78913/262144=LL:=⟨_,rfl⟩;rw[hLL]at hnn;clear k1 k2 k3 k4 k5 k6 hs9;have Hfw:=xhd hfw;clear hfw
  by_cases hD0:D=0
  ·subst hD0
   refine⟨[],0,(fun c hc=>by cases hc),by omega,by omega,?_⟩;rcases hs2 with rfl|rfl
   ·skip
    skip
    intro w B v0 hown hB hE;obtain⟨Hown,HE⟩:=xh2 hown hE;have hopt:=hE.cell hF.opt;clear hown hE;go_enter Tryz.func91,Tryz.ntmps91;go_wp2_with fail
    go_quiet (fail);go_wp2_with fail
    refine(l10_any _ _ (by omega) (by omega)).mono ?_;rintro e w1⟨rfl,hw⟩;subst w1;go_wp2_with fail
    refine(Tryz.bits_Len64 (mt:Nat) _ (by omega) (by omega)).mono ?_;rintro e w1⟨rfl,hw⟩;subst w1;rw[Int.toNat_natCast,Hbl.out];go_wp2_with fail
    refine(Hfw.out _ (by exact HE.out.grown0 (gr_alloc (gr_drewN (xgr _ _) _) _))).mono ?_;rintro e w1⟨rfl,hg1⟩;have hbuf:=heap_alloc_new (w.drewN nq) (.cells (Array.replicate 24 (.int .u8 0)) 185 (0,0));have hbuf1:=(hg1.block (w.drewN nq).heap.size (by simp) (by simp)).trans hbuf;have Hbuf:=xhd (show Buf24 w1 w.heap.size from hbuf1);have Hg1:=xhd (show w.grownBy w1 none from(gr_alloc (gr_drewN (xgr _ _) _) _).trans hg1);have Hown1:=xhd (show OwnB B w1 v0 [] from(OwnB.alloc (OwnB.drewN Hown.out _) _).kept hg1 (fun k hk=>by cases hk));have hws:w.heap.size<w1.heap.size:=(xgl hbuf1);clear hbuf hbuf1 hg1;go_wp2_with fail
    refine(fmt_any _ B v0 false [] 0 w.heap.size 24 24 (by simp) (by omega) (by omega) hws (fun e=>by have:=(Hown.out.lt _ e);omega) (fun i c h=>by simp at h) (by exact Hown1.out) (by omega) (by omega) (by omega) false).mono ?_;rintro e w1⟨v',rfl,hD⟩;have HD:=xhd hD;clear hD;go_wp2_with fail
    go_ret;refine⟨_,rfl,HD.out.pre ?_ hB⟩;exact Hg1.out
   ·skip
    skip
    intro w B v0 hown hB hE;obtain⟨Hown,HE⟩:=xh2 hown hE;have hopt:=hE.cell hF.opt;clear hown hE;go_enter Tryz.func91,Tryz.ntmps91;go_wp2_with fail
    go_quiet (fail);go_wp2_with fail
    refine(l10_any _ _ (by omega) (by omega)).mono ?_;rintro e w1⟨rfl,hw⟩;subst w1;go_wp2_with fail
    refine(Tryz.bits_Len64 (mt:Nat) _ (by omega) (by omega)).mono ?_;rintro e w1⟨rfl,hw⟩;subst w1;rw[Int.toNat_natCast,Hbl.out];go_wp2_with fail
    refine(Hfw.out _ (by exact HE.out.grown0 (gr_alloc (gr_drewN (xgr _ _) _) _))).mono ?_;rintro e w1⟨rfl,hg1⟩;have hbuf:=heap_alloc_new (w.drewN nq) (.cells (Array.replicate 24 (.int .u8 0)) 185 (0,0));have hbuf1:=(hg1.block (w.drewN nq).heap.size (by simp) (by simp)).trans hbuf;have Hbuf:=xhd (show Buf24 w1 w.heap.size from hbuf1);have Hg1:=xhd (show w.grownBy w1 none from(gr_alloc (gr_drewN (xgr _ _) _) _).trans hg1);have Hown1:=xhd (show OwnB B w1 v0 [] from(OwnB.alloc (OwnB.drewN Hown.out _) _).kept hg1 (fun k hk=>by cases hk));have hws:w.heap.size<w1.heap.size:=(xgl hbuf1);clear hbuf hbuf1 hg1;go_wp2_with fail
    refine(fmt_any _ B v0 true [] 0 w.heap.size 24 24 (by simp) (by omega) (by omega) hws (fun e=>by have:=(Hown.out.lt _ e);omega) (fun i c h=>by simp at h) (by exact Hown1.out) (by omega) (by omega) (by omega) false).mono ?_;rintro e w1⟨v',rfl,hD⟩;have HD:=xhd hD;clear hD;go_wp2_with fail
    go_ret;refine⟨_,rfl,HD.out.pre ?_ hB⟩;exact Hg1.out
  ·obtain⟨d,hd⟩:∃d:Nat,D=d:=⟨D.toNat,by omega⟩
   subst hd;have hdne:((d:Int) != 0)=true:=by simp;omega
   have hd1:1≤d:=by omega
   have hd64:d<18446744073709551616:=by omega
   have hn20:=nDigits_le20 hd64;have hnp:=nDigits_pos d;refine⟨sdL d,(nDigits d:Nat) + -P,sdL_ds d,by omega,by omega,?_⟩;have hl20:=(sdL_len hd64).2;clear hD0;rcases hs2 with rfl|rfl
   ·skip
    skip
    intro w B v0 hown hB hE;obtain⟨Hown,HE⟩:=xh2 hown hE;have hopt:=hE.cell hF.opt;clear hown hE;go_enter Tryz.func91,Tryz.ntmps91;go_wp2_with fail
    go_quiet (fail);go_wp2_with fail
    refine(l10_any _ _ (by omega) (by omega)).mono ?_;rintro e w1⟨rfl,hw⟩;subst w1;go_wp2_with fail
    refine(Tryz.bits_Len64 (mt:Nat) _ (by omega) (by omega)).mono ?_;rintro e w1⟨rfl,hw⟩;subst w1;rw[Int.toNat_natCast,Hbl.out];go_wp2_with fail
    refine(Hfw.out _ (by exact HE.out.grown0 (gr_alloc (gr_drewN (xgr _ _) _) _))).mono ?_;rintro e w1⟨rfl,hg1⟩;have hbuf:=heap_alloc_new (w.drewN nq) (.cells (Array.replicate 24 (.int .u8 0)) 185 (0,0));have hbuf1:=(hg1.block (w.drewN nq).heap.size (by simp) (by simp)).trans hbuf;have Hbuf:=xhd (show Buf24 w1 w.heap.size from hbuf1);have Hg1:=xhd (show w.grownBy w1 none from(gr_alloc (gr_drewN (xgr _ _) _) _).trans hg1);have Hown1:=xhd (show OwnB B w1 v0 [] from(OwnB.alloc (OwnB.drewN Hown.out _) _).kept hg1 (fun k hk=>by cases hk));have hws:w.heap.size<w1.heap.size:=(xgl hbuf1);clear hbuf hbuf1 hg1;go_wp2_with fail
    have HE1:=xhd (HE.out.grown0 Hg1.out)
    go_upto_region 74 with (fail)
    go_cut [26,27] from 229 to 237 (fun t26 t27 wx=>t26=.int .i64 ((nDigits d:Nat) + -P)∧t27=.int .i64 ((sdL d).length:Nat)∧(∀(i:Nat) c,(sdL d)[i]?=some c→wx.cell? ⟨w.heap.size,i,none⟩=some (.int .u8 (c.toNat:Int)))∧w1.grownBy wx (some w.heap.size))
    case first =>
     go_region_law
      (first
       | (go_simp;go_at_call 119;refine(Tryz.internal_strconv_numDigits d hd1 hd64 _ (by exact tab_env HT.out HE1.out)).mono ?_;rintro e w3⟨rfl,hw⟩;subst w3)
       | (go_simp;go_at_call 118;refine(sd_any d hd1 hd64 (-P) (by omega) (by omega) _ w.heap.size (by exact Hbuf.out)).mono ?_;rintro e w3⟨rfl,hc3,hg3,hz3⟩;have Hc3:=xhd hc3;have Hg3:=xhd hg3;clear hc3 hg3 hz3))
     all_goals
      go_wp2_with fail
      go_meet
      case rel=>exact⟨rfl,rfl,Hc3.out,(by first|exact Hg3.out|exact(gr_drew (xgr _ _)).trans Hg3.out|exact(gr_drewN (xgr _ _) _).trans Hg3.out)⟩
    obtain⟨rfl,rfl,hc3,hg3⟩:=hcut;obtain⟨Hc3,Hg3⟩:=xh2 hc3 hg3;clear hc3 hg3;go_wp2_with fail
    refine(fmt_any _ B v0 false (sdL d) ((nDigits d:Nat) + -P) w.heap.size 24 24 (by omega) (by omega) (by omega) (Nat.lt_of_lt_of_le hws Hg3.out.size) (fun e=>by have:=(Hown.out.lt _ e);omega) (fun i c h=>Hc3.out i c h) (by exact own_keptN Hown1.out Hg3.out (fun k hk e=>by have:=(Hown.out.lt k hk);injection e with e;omega)) (by have:=Hg3.out.size;omega) (by omega) (by omega) false).mono ?_;rintro e w1⟨v',rfl,hD⟩;have HD:=xhd hD;clear hD;go_wp2_with fail
    go_ret;refine⟨_,rfl,HD.out.pre ?_ hB⟩;exact gr_noneThen Hg1.out Hg3.out (fun k hk=>by injection hk with hk;omega)
   ·skip
    skip
    intro w B v0 hown hB hE;obtain⟨Hown,HE⟩:=xh2 hown hE;have hopt:=hE.cell hF.opt;clear hown hE;go_enter Tryz.func91,Tryz.ntmps91;go_wp2_with fail
    go_quiet (fail);go_wp2_with fail
    refine(l10_any _ _ (by omega) (by omega)).mono ?_;rintro e w1⟨rfl,hw⟩;subst w1;go_wp2_with fail
    refine(Tryz.bits_Len64 (mt:Nat) _ (by omega) (by omega)).mono ?_;rintro e w1⟨rfl,hw⟩;subst w1;rw[Int.toNat_natCast,Hbl.out];go_wp2_with fail
    refine(Hfw.out _ (by exact HE.out.grown0 (gr_alloc (gr_drewN (xgr _ _) _) _))).mono ?_;rintro e w1⟨rfl,hg1⟩;have hbuf:=heap_alloc_new (w.drewN nq) (.cells (Array.replicate 24 (.int .u8 0)) 185 (0,0));have hbuf1:=(hg1.block (w.drewN nq).heap.size (by simp) (by simp)).trans hbuf;have Hbuf:=xhd (show Buf24 w1 w.heap.size from hbuf1);have Hg1:=xhd (show w.grownBy w1 none from(gr_alloc (gr_drewN (xgr _ _) _) _).trans hg1);have Hown1:=xhd (show OwnB B w1 v0 [] from(OwnB.alloc (OwnB.drewN Hown.out _) _).kept hg1 (fun k hk=>by cases hk));have hws:w.heap.size<w1.heap.size:=(xgl hbuf1);clear hbuf hbuf1 hg1;go_wp2_with fail
    have HE1:=xhd (HE.out.grown0 Hg1.out)
    go_upto_region 74 with (fail)
    go_cut [26,27] from 229 to 237 (fun t26 t27 wx=>t26=.int .i64 ((nDigits d:Nat) + -P)∧t27=.int .i64 ((sdL d).length:Nat)∧(∀(i:Nat) c,(sdL d)[i]?=some c→wx.cell? ⟨w.heap.size,i,none⟩=some (.int .u8 (c.toNat:Int)))∧w1.grownBy wx (some w.heap.size))
    case first =>
     go_region_law
      (first
       | (go_simp;go_at_call 119;refine(Tryz.internal_strconv_numDigits d hd1 hd64 _ (by exact tab_env HT.out HE1.out)).mono ?_;rintro e w3⟨rfl,hw⟩;subst w3)
       | (go_simp;go_at_call 118;refine(sd_any d hd1 hd64 (-P) (by omega) (by omega) _ w.heap.size (by exact Hbuf.out)).mono ?_;rintro e w3⟨rfl,hc3,hg3,hz3⟩;have Hc3:=xhd hc3;have Hg3:=xhd hg3;clear hc3 hg3 hz3))
     all_goals
      go_wp2_with fail
      go_meet
      case rel=>exact⟨rfl,rfl,Hc3.out,(by first|exact Hg3.out|exact(gr_drew (xgr _ _)).trans Hg3.out|exact(gr_drewN (xgr _ _) _).trans Hg3.out)⟩
    obtain⟨rfl,rfl,hc3,hg3⟩:=hcut;obtain⟨Hc3,Hg3⟩:=xh2 hc3 hg3;clear hc3 hg3;go_wp2_with fail
    refine(fmt_any _ B v0 true (sdL d) ((nDigits d:Nat) + -P) w.heap.size 24 24 (by omega) (by omega) (by omega) (Nat.lt_of_lt_of_le hws Hg3.out.size) (fun e=>by have:=(Hown.out.lt _ e);omega) (fun i c h=>Hc3.out i c h) (by exact own_keptN Hown1.out Hg3.out (fun k hk e=>by have:=(Hown.out.lt k hk);injection e with e;omega)) (by have:=Hg3.out.size;omega) (by omega) (by omega) false).mono ?_;rintro e w1⟨v',rfl,hD⟩;have HD:=xhd hD;clear hD;go_wp2_with fail
    go_ret;refine⟨_,rfl,HD.out.pre ?_ hB⟩;exact gr_noneThen Hg1.out Hg3.out (fun k hk=>by injection hk with hk;omega)
 ·have hk : 1 ≤ nnN E ∧ nnN E ≤ 18 ∧ 11 ≤ p0E (nnN E) E ∧ p0E (nnN E) E ≤ 13 ∧ 0 ≤ sE (p0E (nnN E) E) E ∧ sE (p0E (nnN E) E) E < 64 := by
   have:=negE (-E-1).toNat (by omega)
   rwa [show -((((-E-1).toNat:Nat):Int)+1)=E by omega]at this
  obtain⟨k1,k2,k3,k4,k5,k6⟩:=hk;obtain⟨nn,hnn⟩:∃nn:Nat,nnN E=(nn:Int):=⟨(nnN E).toNat,by omega⟩;obtain⟨s,hs9⟩:∃s:Nat,sE (p0E (nnN E) E) E=(s:Int):=⟨(sE (p0E (nnN E) E) E).toNat,by omega⟩;obtain⟨D,P,hD0,hD1,hP0,hP1,hfw⟩:=fw_ex W0 hF hT m9 hm3 ex (p0E (nnN E) E) s nn (by omega) (by omega) (by omega) (by omega) (by rw[←hnn,←hex];unfold p0E;rw[show E-11-52+63=E by omega]) k3 k4 (by rw[←hs9,←hex];unfold sE;rw[show E-11-52=E-63 by omega]) (by omega);have hn18:nn≤18:=by omega
  have hn1:1≤nn:=by omega
  unfold nnN at hnn;obtain⟨LL,hLL⟩:∃LL:Int,-E*78913/262144=LL:=⟨_,rfl⟩;rw[hLL]at hnn;clear k1 k2 k3 k4 k5 k6 hs9;have Hfw:=xhd hfw;clear hfw
  by_cases hD0:D=0
  ·subst hD0
   refine⟨[],0,(fun c hc=>by cases hc),by omega,by omega,?_⟩;rcases hs2 with rfl|rfl
   ·skip
    skip
    intro w B v0 hown hB hE;obtain⟨Hown,HE⟩:=xh2 hown hE;have hopt:=hE.cell hF.opt;clear hown hE;go_enter Tryz.func91,Tryz.ntmps91;go_wp2_with fail
    go_quiet (fail);go_wp2_with fail
    refine(l10_any _ _ (by omega) (by omega)).mono ?_;rintro e w1⟨rfl,hw⟩;subst w1;go_wp2_with fail
    refine(Tryz.bits_Len64 (mt:Nat) _ (by omega) (by omega)).mono ?_;rintro e w1⟨rfl,hw⟩;subst w1;rw[Int.toNat_natCast,Hbl.out];go_wp2_with fail
    refine(Hfw.out _ (by exact HE.out.grown0 (gr_alloc (gr_drewN (xgr _ _) _) _))).mono ?_;rintro e w1⟨rfl,hg1⟩;have hbuf:=heap_alloc_new (w.drewN nq) (.cells (Array.replicate 24 (.int .u8 0)) 185 (0,0));have hbuf1:=(hg1.block (w.drewN nq).heap.size (by simp) (by simp)).trans hbuf;have Hbuf:=xhd (show Buf24 w1 w.heap.size from hbuf1);have Hg1:=xhd (show w.grownBy w1 none from(gr_alloc (gr_drewN (xgr _ _) _) _).trans hg1);have Hown1:=xhd (show OwnB B w1 v0 [] from(OwnB.alloc (OwnB.drewN Hown.out _) _).kept hg1 (fun k hk=>by cases hk));have hws:w.heap.size<w1.heap.size:=(xgl hbuf1);clear hbuf hbuf1 hg1;go_wp2_with fail
    refine(fmt_any _ B v0 false [] 0 w.heap.size 24 24 (by simp) (by omega) (by omega) hws (fun e=>by have:=(Hown.out.lt _ e);omega) (fun i c h=>by simp at h) (by exact Hown1.out) (by omega) (by omega) (by omega) false).mono ?_;rintro e w1⟨v',rfl,hD⟩;have HD:=xhd hD;clear hD;go_wp2_with fail
    go_ret;refine⟨_,rfl,HD.out.pre ?_ hB⟩;exact Hg1.out
   ·skip
    skip
    intro w B v0 hown hB hE;obtain⟨Hown,HE⟩:=xh2 hown hE;have hopt:=hE.cell hF.opt;clear hown hE;go_enter Tryz.func91,Tryz.ntmps91;go_wp2_with fail
    go_quiet (fail);go_wp2_with fail
    refine(l10_any _ _ (by omega) (by omega)).mono ?_;rintro e w1⟨rfl,hw⟩;subst w1;go_wp2_with fail
    refine(Tryz.bits_Len64 (mt:Nat) _ (by omega) (by omega)).mono ?_;rintro e w1⟨rfl,hw⟩;subst w1;rw[Int.toNat_natCast,Hbl.out];go_wp2_with fail
    refine(Hfw.out _ (by exact HE.out.grown0 (gr_alloc (gr_drewN (xgr _ _) _) _))).mono ?_;rintro e w1⟨rfl,hg1⟩;have hbuf:=heap_alloc_new (w.drewN nq) (.cells (Array.replicate 24 (.int .u8 0)) 185 (0,0));have hbuf1:=(hg1.block (w.drewN nq).heap.size (by simp) (by simp)).trans hbuf;have Hbuf:=xhd (show Buf24 w1 w.heap.size from hbuf1);have Hg1:=xhd (show w.grownBy w1 none from(gr_alloc (gr_drewN (xgr _ _) _) _).trans hg1);have Hown1:=xhd (show OwnB B w1 v0 [] from(OwnB.alloc (OwnB.drewN Hown.out _) _).kept hg1 (fun k hk=>by cases hk));have hws:w.heap.size<w1.heap.size:=(xgl hbuf1);clear hbuf hbuf1 hg1;go_wp2_with fail
    refine(fmt_any _ B v0 true [] 0 w.heap.size 24 24 (by simp) (by omega) (by omega) hws (fun e=>by have:=(Hown.out.lt _ e);omega) (fun i c h=>by simp at h) (by exact Hown1.out) (by omega) (by omega) (by omega) false).mono ?_;rintro e w1⟨v',rfl,hD⟩;have HD:=xhd hD;clear hD;go_wp2_with fail
    go_ret;refine⟨_,rfl,HD.out.pre ?_ hB⟩;exact Hg1.out
  ·obtain⟨d,hd⟩:∃d:Nat,D=d:=⟨D.toNat,by omega⟩
   subst hd;have hdne:((d:Int) != 0)=true:=by simp;omega
   have hd1:1≤d:=by omega
   have hd64:d<18446744073709551616:=by omega
   have hn20:=nDigits_le20 hd64;have hnp:=nDigits_pos d;refine⟨sdL d,(nDigits d:Nat) + -P,sdL_ds d,by omega,by omega,?_⟩;have hl20:=(sdL_len hd64).2;clear hD0;rcases hs2 with rfl|rfl
   ·skip
    skip
    intro w B v0 hown hB hE;obtain⟨Hown,HE⟩:=xh2 hown hE;have hopt:=hE.cell hF.opt;clear hown hE;go_enter Tryz.func91,Tryz.ntmps91;go_wp2_with fail
    go_quiet (fail);go_wp2_with fail
    refine(l10_any _ _ (by omega) (by omega)).mono ?_;rintro e w1⟨rfl,hw⟩;subst w1;go_wp2_with fail
    refine(Tryz.bits_Len64 (mt:Nat) _ (by omega) (by omega)).mono ?_;rintro e w1⟨rfl,hw⟩;subst w1;rw[Int.toNat_natCast,Hbl.out];go_wp2_with fail
    refine(Hfw.out _ (by exact HE.out.grown0 (gr_alloc (gr_drewN (xgr _ _) _) _))).mono ?_;rintro e w1⟨rfl,hg1⟩;have hbuf:=heap_alloc_new (w.drewN nq) (.cells (Array.replicate 24 (.int .u8 0)) 185 (0,0));have hbuf1:=(hg1.block (w.drewN nq).heap.size (by simp) (by simp)).trans hbuf;have Hbuf:=xhd (show Buf24 w1 w.heap.size from hbuf1);have Hg1:=xhd (show w.grownBy w1 none from(gr_alloc (gr_drewN (xgr _ _) _) _).trans hg1);have Hown1:=xhd (show OwnB B w1 v0 [] from(OwnB.alloc (OwnB.drewN Hown.out _) _).kept hg1 (fun k hk=>by cases hk));have hws:w.heap.size<w1.heap.size:=(xgl hbuf1);clear hbuf hbuf1 hg1;go_wp2_with fail
    have HE1:=xhd (HE.out.grown0 Hg1.out)
    go_upto_region 74 with (fail)
    go_cut [26,27] from 229 to 237 (fun t26 t27 wx=>t26=.int .i64 ((nDigits d:Nat) + -P)∧t27=.int .i64 ((sdL d).length:Nat)∧(∀(i:Nat) c,(sdL d)[i]?=some c→wx.cell? ⟨w.heap.size,i,none⟩=some (.int .u8 (c.toNat:Int)))∧w1.grownBy wx (some w.heap.size))
    case first =>
     go_region_law
      (first
       | (go_simp;go_at_call 119;refine(Tryz.internal_strconv_numDigits d hd1 hd64 _ (by exact tab_env HT.out HE1.out)).mono ?_;rintro e w3⟨rfl,hw⟩;subst w3)
       | (go_simp;go_at_call 118;refine(sd_any d hd1 hd64 (-P) (by omega) (by omega) _ w.heap.size (by exact Hbuf.out)).mono ?_;rintro e w3⟨rfl,hc3,hg3,hz3⟩;have Hc3:=xhd hc3;have Hg3:=xhd hg3;clear hc3 hg3 hz3))
     all_goals
      go_wp2_with fail
      go_meet
      case rel=>exact⟨rfl,rfl,Hc3.out,(by first|exact Hg3.out|exact(gr_drew (xgr _ _)).trans Hg3.out|exact(gr_drewN (xgr _ _) _).trans Hg3.out)⟩
    obtain⟨rfl,rfl,hc3,hg3⟩:=hcut;obtain⟨Hc3,Hg3⟩:=xh2 hc3 hg3;clear hc3 hg3;go_wp2_with fail
    refine(fmt_any _ B v0 false (sdL d) ((nDigits d:Nat) + -P) w.heap.size 24 24 (by omega) (by omega) (by omega) (Nat.lt_of_lt_of_le hws Hg3.out.size) (fun e=>by have:=(Hown.out.lt _ e);omega) (fun i c h=>Hc3.out i c h) (by exact own_keptN Hown1.out Hg3.out (fun k hk e=>by have:=(Hown.out.lt k hk);injection e with e;omega)) (by have:=Hg3.out.size;omega) (by omega) (by omega) false).mono ?_;rintro e w1⟨v',rfl,hD⟩;have HD:=xhd hD;clear hD;go_wp2_with fail
    go_ret;refine⟨_,rfl,HD.out.pre ?_ hB⟩;exact gr_noneThen Hg1.out Hg3.out (fun k hk=>by injection hk with hk;omega)
   ·skip
    skip
    intro w B v0 hown hB hE;obtain⟨Hown,HE⟩:=xh2 hown hE;have hopt:=hE.cell hF.opt;clear hown hE;go_enter Tryz.func91,Tryz.ntmps91;go_wp2_with fail
    go_quiet (fail);go_wp2_with fail
    refine(l10_any _ _ (by omega) (by omega)).mono ?_;rintro e w1⟨rfl,hw⟩;subst w1;go_wp2_with fail
    refine(Tryz.bits_Len64 (mt:Nat) _ (by omega) (by omega)).mono ?_;rintro e w1⟨rfl,hw⟩;subst w1;rw[Int.toNat_natCast,Hbl.out];go_wp2_with fail
    refine(Hfw.out _ (by exact HE.out.grown0 (gr_alloc (gr_drewN (xgr _ _) _) _))).mono ?_;rintro e w1⟨rfl,hg1⟩;have hbuf:=heap_alloc_new (w.drewN nq) (.cells (Array.replicate 24 (.int .u8 0)) 185 (0,0));have hbuf1:=(hg1.block (w.drewN nq).heap.size (by simp) (by simp)).trans hbuf;have Hbuf:=xhd (show Buf24 w1 w.heap.size from hbuf1);have Hg1:=xhd (show w.grownBy w1 none from(gr_alloc (gr_drewN (xgr _ _) _) _).trans hg1);have Hown1:=xhd (show OwnB B w1 v0 [] from(OwnB.alloc (OwnB.drewN Hown.out _) _).kept hg1 (fun k hk=>by cases hk));have hws:w.heap.size<w1.heap.size:=(xgl hbuf1);clear hbuf hbuf1 hg1;go_wp2_with fail
    have HE1:=xhd (HE.out.grown0 Hg1.out)
    go_upto_region 74 with (fail)
    go_cut [26,27] from 229 to 237 (fun t26 t27 wx=>t26=.int .i64 ((nDigits d:Nat) + -P)∧t27=.int .i64 ((sdL d).length:Nat)∧(∀(i:Nat) c,(sdL d)[i]?=some c→wx.cell? ⟨w.heap.size,i,none⟩=some (.int .u8 (c.toNat:Int)))∧w1.grownBy wx (some w.heap.size))
    case first =>
     go_region_law
      (first
       | (go_simp;go_at_call 119;refine(Tryz.internal_strconv_numDigits d hd1 hd64 _ (by exact tab_env HT.out HE1.out)).mono ?_;rintro e w3⟨rfl,hw⟩;subst w3)
       | (go_simp;go_at_call 118;refine(sd_any d hd1 hd64 (-P) (by omega) (by omega) _ w.heap.size (by exact Hbuf.out)).mono ?_;rintro e w3⟨rfl,hc3,hg3,hz3⟩;have Hc3:=xhd hc3;have Hg3:=xhd hg3;clear hc3 hg3 hz3))
     all_goals
      go_wp2_with fail
      go_meet
      case rel=>exact⟨rfl,rfl,Hc3.out,(by first|exact Hg3.out|exact(gr_drew (xgr _ _)).trans Hg3.out|exact(gr_drewN (xgr _ _) _).trans Hg3.out)⟩
    obtain⟨rfl,rfl,hc3,hg3⟩:=hcut;obtain⟨Hc3,Hg3⟩:=xh2 hc3 hg3;clear hc3 hg3;go_wp2_with fail
    refine(fmt_any _ B v0 true (sdL d) ((nDigits d:Nat) + -P) w.heap.size 24 24 (by omega) (by omega) (by omega) (Nat.lt_of_lt_of_le hws Hg3.out.size) (fun e=>by have:=(Hown.out.lt _ e);omega) (fun i c h=>Hc3.out i c h) (by exact own_keptN Hown1.out Hg3.out (fun k hk e=>by have:=(Hown.out.lt k hk);injection e with e;omega)) (by have:=Hg3.out.size;omega) (by omega) (by omega) false).mono ?_;rintro e w1⟨v',rfl,hD⟩;have HD:=xhd hD;clear hD;go_wp2_with fail
    go_ret;refine⟨_,rfl,HD.out.pre ?_ hB⟩;exact gr_noneThen Hg1.out Hg3.out (fun k hk=>by injection hk with hk;omega)
end Go.Proofs.YtfkecmlmnhbmoaaGreatDoor
