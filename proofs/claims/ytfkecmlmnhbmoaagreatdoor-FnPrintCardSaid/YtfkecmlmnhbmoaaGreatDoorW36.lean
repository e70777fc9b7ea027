/- Parts J6 J10 J12 J13. -/
import Derived.Test.YtfkecmlmnhbmoaaGreatDoorW30
import Derived.Test.YtfkecmlmnhbmoaaGreatDoorW31
import Derived.Test.YtfkecmlmnhbmoaaGreatDoorW35
set_option linter.unusedVariables false
set_option linter.unusedSimpArgs false
set_option maxRecDepth 100000
set_option maxHeartbeats 40000000
namespace Go.Proofs.YtfkecmlmnhbmoaaGreatDoor
open Go Go.RowKit
theorem gr_setZ {w wr:World}{b:Nat}(h:w.grownBy wr none)(hb:w.heap.size≤b)(i:Nat)(v:Value):w.grownBy (wr.setCell ⟨b,i,none⟩ v) none :=
 ⟨h.os,h.tape,h.output,by simpa using h.size,fun k hk hkb=>(Below.heap_setCell _ _ _ _ (by simp;omega)).trans (h.block k hk hkb)⟩
theorem gr_weak {w wr:World}(h:w.grownBy wr none)(r:Option Nat):w.grownBy wr r:=⟨h.os,h.tape,h.output,h.size,fun k hk _=>h.block k hk (by simp)⟩
theorem asg_any (w:World)(b:Nat)(A:By)(nd0:Nat)(dp0:Int)(neg tr:Bool)(M:Nat)(hM:M≠0)(hM64:M<18446744073709551616)(hD:DecAt w b A nd0 dp0 neg tr) :
  Calls Tryz.prog 122 #[.pointer (some ⟨b,0,none⟩),.int .u64 (M:Nat)] w fun e w'=>e=.returned (.tuple #[])∧DecN w' b (strip M) (numD M) neg tr∧w.grownBy w' (some b):=by
 have hn24:numD M≤20:=numD_le_of (by omega);have hM1:1≤numD M:=numD_pos1 hM;obtain⟨n,hn⟩:∃n,n=numD M:=⟨_,rfl⟩;rw[←hn]at hn24 hM1⊢;have HM:=xhd (And.intro hM hn);have hlt:=hD.lt;have hnew:∀cs,(w.alloc (.cells cs 185)).heap[w.heap.size]?=some (.cells cs 185 (0,0)):=fun cs=>heap_alloc_new w _;have HD:=xhd hD;have hbw:¬b=w.heap.size:=by omega
 clear hM hn hD;go_enter Tryz.func122,Tryz.ntmps122;go_wp2_with fail
 go_loopg [1,5] n (fun g t1 t5 wr=>∃(i:Nat) (V:Nat),t1=.int .u64 (V:Nat)∧t5=.int .i64 (i:Nat)∧V=M/10^i∧i≤n∧g=n-i∧LowAt wr w.heap.size M i∧w.grownBy wr none∧V<18446744073709551616)
 case atStart=>exact⟨0,M,rfl,rfl,by simp,Nat.zero_le _,rfl,⟨_,hnew _,rfl,fun j hj=>absurd hj (Nat.not_lt_zero _)⟩,gr_alloc (xgr _ _) _,hM64⟩
 case round =>
  obtain⟨i,V,rfl,rfl,hV,hi,hg,hL,hG,hV64⟩:=hrel;obtain⟨HV,Hg,HG,HL⟩:=xh4 hV hg hG hL
  by_cases hin:i<n
  ·have hVne:V≠0:=by
    rw[hV];have h1:=numD_le M HM.out.1;have h2:10^i≤M:=Nat.le_trans (Nat.pow_le_pow_right (by decide) (by have:=HM.out.2;omega)) h1;exact Nat.ne_of_gt (Nat.div_pos h2 (Nat.pow_pos (by decide)))
   obtain⟨⟨u,hu⟩,hf⟩:=hL.cellAny (j:=i) (by omega);obtain⟨q,hq⟩:∃q,q=V/10:=⟨_,rfl⟩;obtain⟨d,hd⟩:∃d,d=V%10:=⟨_,rfl⟩;have hq1:(V:Int)/10=(q:Int):=by omega
   have hq2:(V:Int).tdiv 10=(q:Int):=by rw[Int.tdiv_eq_ediv_of_nonneg (by omega)];exact hq1
   have hq3:(V:Int)-10*(q:Int)=(d:Int):=by omega
   have hq5:10*(q:Int)≤V:=by omega
   have hd9:d≤9:=by omega
   have hvp:0<(V:Int):=by omega
   have hV10:=hV;have Hq:=xhd (show q=M/10^(i+1) by rw[hq,hV,Nat.div_div_eq_div_mul,Nat.pow_succ]);have Hd:=xhd (show d=M/10^i%10 by rw[hd,hV]);have Hq64:=xhd (show q<18446744073709551616 by omega);clear hV hV10 hg hG hL hVne hq hd;go_wp2_with fail
   go_roundg (n-(i+1))
   case measure=>rw[Hg.out];omega
   case rel =>
    refine⟨i+1,q,rfl,by simp,Hq.out,by omega,rfl,HL.out.push (by omega) ?_,gr_setZ HG.out (Nat.le_refl _) _ _,Hq64.out⟩;rw[←Hd.out];congr 1
    first|omega|(rw[IntKind.wrap_u8];omega)|(simp;omega)
  ·obtain rfl:i=n:=by omega
   have hV0:V=0:=by
    rw[hV,HM.out.2];exact Nat.div_eq_of_lt (numD_lt M)
   subst hV0;have hD:=HD.out.grown hG (by simp);obtain⟨c0,c1,c2,c3,cf⟩:=hD.cells;have hD0:=hD.setNd 0;have HD0:=xhd (DecN.zero hD0);clear hV HV hg hL hG hD hD0;go_wp2_with fail
   go_loopg [5] i (fun g t5 wr=>∃(k:Nat) (z:Int),t5=.int .i64 z∧z=(k:Int)-1∧g=k∧k≤i∧DecN wr b (M/10^k) dp0 neg tr∧LowAt wr w.heap.size M i∧w.grownBy wr (some b))
   case atStart =>
    refine⟨i,_,rfl,rfl,rfl,Nat.le_refl _,?_,HL.out.keep ?_,?_⟩
    ·rw[show M/10^i=0 by rw[HM.out.2];exact Nat.div_eq_of_lt (numD_lt M)];exact HD0.out
    ·exact Below.heap_setCell _ _ _ _ (by simpa using fun e=>hbw e.symm)
    ·exact gr_set (gr_weak HG.out _) _ _
   case round =>
    clear HD0 c0 c1 c2 c3 cf Hg HG HL;obtain⟨k,z,rfl,hz,hg,hk,hD2,hL2,hG2⟩:=hrel;obtain⟨Hg,HG,HL,HD2⟩:=xh4 hg hG2 hL2 hD2
    cases k with
    | zero =>
     have hz0:¬(0≤z):=by omega
     rw[Nat.pow_zero,Nat.div_one]at hD2;obtain⟨h800,A',hA',hds',hdv'⟩:=hD2;obtain⟨c0,c1,c2,c3,cf⟩:=hA'.cells;rw[←HM.out.2]at c0;have htr:=trim_any (wr.setCell ⟨b,801,none⟩ (.int .i64 (i:Nat))) b A' (numD M) (i:Nat) neg tr (hA'.setDp _) h800;obtain⟨t1,t2⟩:=trimN_dv (numD M) A' (by have:=hA'.1;omega) hds' (by rw[hdv'];exact HM.out.1) (by rw[hdv']);rw[hdv']at t1 t2;have hpos:1≤numD (strip M):=numD_pos1 (strip_pos HM.out.1);have hdp:dpN (trimN A' (numD M)) (i:Nat)=(i:Nat):=by unfold dpN;rw[if_neg (by rw[t1];omega)]
     rw[hdp,t1]at htr
     have hfin:∀w',DecAt w' b A' (numD (strip M)) (i:Nat) neg tr→DecN w' b (strip M) (i:Nat) neg tr:=fun w' h=>by
      have hle:=trimN_le A' (numD M);refine⟨by rw[←t1];omega,A',h,?_,by rw[←t1];exact t2⟩;rw[←t1];intro x hx;refine hds' x ?_;have e:A'.take (trimN A' (numD M))=(A'.take (numD M)).take (trimN A' (numD M)):=by rw[List.take_take,Nat.min_eq_left (by omega)]
      rw[e]at hx;exact List.mem_of_mem_take hx
     obtain⟨Htr,Hfin⟩:=xh2 htr hfin;clear hz hg hL2 hG2 HD2 hA' hds' hdv' htr t1 t2 hfin hpos hdp h800;go_wp2_with fail
     refine Htr.out.mono ?_;rintro e w1⟨rfl,hD1,hg1⟩;obtain⟨HD1,Hg1⟩:=xh2 hD1 hg1;clear hD1 hg1;go_wp2_with fail
     go_end0;exact⟨rfl,Hfin.out _ HD1.out,(gr_set HG.out _ _).trans Hg1.out⟩
    | succ j =>
     have hz0:0≤z:=by omega
     have hz1:z<24:=by omega
     have hzt:z.toNat=j:=by omega
     have Hz:=xhd (show z=(j:Int) by omega);obtain⟨c,hc⟩:∃c:UInt8,c.toNat=48+M/10^j%10:=⟨UInt8.ofNat (48+M/10^j%10),by rw[UInt8.toNat_ofNat'];omega⟩;have hcl:=hL2.cell (j:=j) (by omega);rw[←hc]at hcl;obtain⟨nn,hnn⟩:∃nn,nn=numD (M/10^(j+1)):=⟨_,rfl⟩
     have hnn20:nn≤20:=by
      have:=numD_mono (Nat.div_le_self M (10^(j+1)));have:=HM.out.2;omega
     have hdg:=HD2.out.digit (c:=c) (by omega) (by omega) (fun h=>by
      have h1:=numD_le M HM.out.1;have h2:10^j≤M:=Nat.le_trans (Nat.pow_le_pow_right (by decide) (by have:=HM.out.2;omega)) h1;have h3:=Nat.div_pos h2 (Nat.pow_pos (show 0<10 by decide));have h4:M/10^j/10=0:=by rw[Nat.div_div_eq_div_mul,←Nat.pow_succ];exact h.2
      omega) (by omega)
     rw[←hnn,show 10*(M/10^(j+1))+(c.toNat-48)=M/10^j by
      rw[hc,Nat.pow_succ,←Nat.div_div_eq_div_mul];omega]at hdg
     obtain⟨h800,A',hA',hds',hdv'⟩:=hD2;obtain⟨c0,c1,c2,c3,cf⟩:=hA'.cells;rw[←hnn]at c0;obtain⟨c9,hc9,cd9⟩:=hA'.digE (i:=nn) (by omega);have hne1:¬nn=800:=by omega
     have hne2:¬800=nn:=by omega
     have Hdg:=xhd hdg;clear hz hg hL2 hG2 HD2 hA' hds' hdv' hdg hnn hc hc9 h800;go_wp2_with fail
     go_region
     go_wp2_with fail
     go_roundg j
     case measure=>rw[Hg.out];omega
     case rel =>
      refine⟨j,_,rfl,by have:=Hz.out;omega,rfl,by omega,Hdg.out,HL.out.keep ?_,?_⟩
      ·refine(Below.heap_setCell _ _ _ _ (by simpa using fun e=>hbw e.symm)).trans ?_
       exact Below.heap_setCell _ _ _ _ (by simpa using fun e=>hbw e.symm)
      ·repeat (first|exact HG.out|apply gr_set|apply gr_drew)
open Go.Sort Go.Lib
def sdL (d:Nat):By:=(decDigits d).take (trimN (decDigits d) (nDigits d))
theorem nDigits_le20 {d:Nat}(h:d<18446744073709551616):nDigits d≤20:=by
 have h1:=decDigits_length d;have h2:=dec_len 19 d (by omega);omega
theorem sdL_ds (d:Nat):isDs (sdL d):=fun c hc=>dec_dig d c (List.mem_of_mem_take hc)
theorem sdL_len {d:Nat}(h:d<18446744073709551616):(sdL d).length=trimN (decDigits d) (nDigits d)∧(sdL d).length≤20:=by
 have h1:=trimN_le (decDigits d) (nDigits d);have h2:=nDigits_le20 h;unfold sdL;rw[List.length_take,decDigits_length];omega
def Buf24 (w:World)(b:Nat):Prop:=w.heap[b]?=some (.cells (Array.replicate 24 (.int .u8 0)) 185 (0,0))
theorem sd_any (d:Nat)(hd1:1≤d)(hd:d<18446744073709551616)(p:Int)(hp1:-1000≤p)(hp2:p≤1000)(w:World)(b:Nat)(hb:Buf24 w b) :
  Calls Tryz.prog 118 #[.slice (some ⟨b,0,none⟩) 24 24,.int .u64 d,.int .i64 p,.int .i64 (nDigits d:Nat)] w fun e w'=>e=.returned (.tuple #[.int .i64 ((nDigits d:Nat)+p),.int .i64 ((sdL d).length:Nat)]) ∧
   (∀(i:Nat) c,(sdL d)[i]?=some c→w'.cell? ⟨b,i,none⟩=some (.int .u8 (c.toNat:Int)))∧w.grownBy w' (some b)∧w'.heap.size=w.heap.size:=by
 have hn20:=nDigits_le20 hd;have hlen:=decDigits_length d;obtain⟨nd,hnd⟩:∃nd,nd=nDigits d:=⟨_,rfl⟩
 have hH:Holds (fun (b:UInt8)=>Value.int .u8 (b.toNat:Int)) w b 0 (Array.replicate nd (0:UInt8)):=by
  intro j hj;have hj2:j<nd:=by simpa using hj
  unfold Buf24 at hb
  constructor
  ·simp[World.cell?,hb,show j<24 by omega,hj2]
  ·simp[World.frozen?,hb]
 have hfb:=Tryz.internal_strconv_formatBase10 b 0 24 d (Array.replicate nd (0:UInt8)) w hH (by rw[Array.size_replicate,hnd];exact lt_pow_nDigits d) hd (by simp;omega);rw[Array.size_replicate]at hfb;rw[←hnd]at hn20 hlen⊢;have hsd:=(sdL_len hd).1;rw[←hnd]at hsd;rw[hsd];obtain⟨HB,HH,Hnd,Hlen,Hsd,Hfb⟩:=xh6 hb hH hnd hlen hsd hfb;clear hb hH hnd hlen hfb hsd;go_enter Tryz.func118,Tryz.ntmps118;go_wp2_with fail
 refine Hfb.out.mono ?_;rintro e w1⟨rfl,n1,v',dk,hw1,hI⟩
 have hdk:∀(i:Nat) c,(decDigits d)[i]?=some c→w1.cell? ⟨b,i,none⟩=some (.int .u8 (c.toNat:Int)):=by
  intro i c hc;obtain⟨hi,e⟩:=List.getElem?_eq_some_iff.1 hc;have hi2:i<nd:=by rw[←Hlen.out];exact hi
  have hz:=hI.size;have h1:=cell?_putRow (fun (b:UInt8)=>Value.int .u8 (b.toNat:Int)) w b 0 (Array.replicate nd (0:UInt8)) dk HH.out (by rw[hz];simp) i (by rw[hz];exact hi2);rw[Nat.zero_add]at h1;have h2:w1.cell? ⟨b,i,none⟩=(putRow (fun (b:UInt8)=>Value.int .u8 (b.toNat:Int)) w b 0 dk).cell? ⟨b,i,none⟩:=by rw[hw1];rfl
  rw[h2,h1];have h3:=row_is_numeral (by rw[Hnd.out]at hI;exact hI) i hi;rw[←h3,e]
 have hgr:w.grownBy w1 (some b)∧w1.heap.size=w.heap.size:=by
  rw[hw1]
  have key:∀f,w.grownBy (mapBlock w b f) (some b)∧(mapBlock w b f).heap.size=w.heap.size:=by
   intro f
   constructor
   ·refine⟨rfl,rfl,rfl,by simp[mapBlock],fun k hk hne=>?_⟩
    simp only[mapBlock];rw[Array.getElem?_modify,if_neg (fun e=>hne (by rw[e]))]
   ·simp[mapBlock]
  exact⟨gr_drewN (key _).1 _,(key _).2⟩
 obtain⟨Hdk,Hgr⟩:=xh2 hdk hgr;clear hw1 hI hdk hgr HB HH Hfb;go_wp2_with fail
 have HT:=xhd (show ∃T,T=trimN (decDigits d) nd from⟨_,rfl⟩)
 go_loopg [3] nd (fun g t3 wr=>∃(k:Nat) (z:Int),t3=.int .i64 z∧z=k∧k≤nd∧trimN (decDigits d) k=trimN (decDigits d) nd∧g=k∧w1=wr)
 case atStart=>exact⟨nd,_,rfl,rfl,Nat.le_refl _,rfl,rfl,rfl⟩
 case round =>
  obtain⟨k,z,rfl,hz,hk,ht,hg,rfl⟩:=hrel;obtain⟨Hg,Ht⟩:=xh2 hg ht;clear hg ht
  cases k with
  | zero =>
   have hz0:¬(0<z):=by omega
   have Hz:=xhd hz;clear hz;go_wp2_with fail
   go_ret2;refine⟨?_,fun i c hc=>?_,Hgr.out⟩
   ·rw[←Ht.out,Hz.out];rfl
   ·refine Hdk.out i c ?_
    unfold sdL at hc;rw[List.getElem?_take]at hc
    split at hc
    ·exact hc
    ·simp at hc
  | succ j =>
   have hz0:0<z:=by omega
   have hz1:z≤20:=by omega
   have hzt:(z-1).toNat=j:=by omega
   have Hz:=xhd hz;obtain⟨c,hc⟩:∃c,(decDigits d)[j]?=some c:=⟨_,List.getElem?_eq_getElem (by rw[Hlen.out];omega)⟩;have hcell:=Hdk.out j c hc;have hgd:(decDigits d).getD j 0=c:=by rw[List.getD_eq_getElem?_getD,hc];rfl
   have Hgd:=xhd hgd;clear hz hc hgd
   by_cases h48:c.toNat=48
   ·have hb8:((c.toNat:Int)==48)=true:=by simp;omega
    have Hk:=xhd (show trimN (decDigits d) j=trimN (decDigits d) nd by rw[←Ht.out];simp only[trimN];rw[Hgd.out,if_pos h48]);clear h48;go_wp2_with fail
    go_roundg j
    case measure=>rw[Hg.out];omega
    case rel=>exact⟨j,_,rfl,by have:=Hz.out;omega,by omega,Hk.out,rfl,rfl⟩
   ·have hb8:((c.toNat:Int)==48)=false:=by simp;omega
    have Hk:=xhd (show j+1=trimN (decDigits d) nd by rw[←Ht.out];simp only[trimN];rw[Hgd.out,if_neg h48]);clear h48;go_wp2_with fail
    go_ret2;refine⟨?_,fun i c hc=>?_,Hgr.out⟩
    ·rw[←Hk.out,Hz.out];rfl
    ·refine Hdk.out i c ?_
     unfold sdL at hc;rw[List.getElem?_take]at hc
     split at hc
     ·exact hc
     ·simp at hc
end Go.Proofs.YtfkecmlmnhbmoaaGreatDoor
namespace Go.Proofs.YtfkecmlmnhbmoaaGreatDoor
open Go Go.RowKit
theorem bv_and (a m:Nat)(ha:a<18446744073709551616)(hm:m<18446744073709551616):(BitVec.ofInt 64 (a:Int) &&& BitVec.ofInt 64 (m:Int)).toNat=a &&& m:=by
 rw[BitVec.toNat_and,BitVec.ofInt_natCast,BitVec.ofInt_natCast,BitVec.toNat_ofNat,BitVec.toNat_ofNat,Nat.mod_eq_of_lt (by omega),Nat.mod_eq_of_lt (by omega)]
theorem bv_or (a m:Nat)(ha:a<18446744073709551616)(hm:m<18446744073709551616):(BitVec.ofInt 64 (a:Int) ||| BitVec.ofInt 64 (m:Int)).toNat=a ||| m:=by
 rw[BitVec.toNat_or,BitVec.ofInt_natCast,BitVec.ofInt_natCast,BitVec.toNat_ofNat,BitVec.toNat_ofNat,Nat.mod_eq_of_lt (by omega),Nat.mod_eq_of_lt (by omega)]
theorem and_exp (h:Nat)(hh:h<4096):bits .and .i64 (h:Int) 2047=((h%2048:Nat):Int):=by
 have e:bits .and .i64 (h:Int) 2047=IntKind.i64.wrap ((BitVec.ofInt 64 (h:Int) &&& BitVec.ofInt 64 ((2047:Nat):Int)).toNat:Int):=rfl;rw[e,bv_and h 2047 (by omega) (by omega)];have:=Nat.and_two_pow_sub_one_eq_mod h 11;rw[show (2:Nat)^11-1=2047 by decide,show (2:Nat)^11=2048 by decide]at this;rw[this];exact IntWalk.i64_in _ (by omega)
theorem and_frac (x:Nat)(hx:x<18446744073709551616):bits .and .u64 (x:Int) 4503599627370495=((x%4503599627370496:Nat):Int):=by
 have e:bits .and .u64 (x:Int) 4503599627370495=IntKind.u64.wrap ((BitVec.ofInt 64 (x:Int) &&& BitVec.ofInt 64 ((4503599627370495:Nat):Int)).toNat:Int):=rfl;rw[e,bv_and x 4503599627370495 hx (by omega)];have:=Nat.and_two_pow_sub_one_eq_mod x 52;rw[show (2:Nat)^52-1=4503599627370495 by decide,show (2:Nat)^52=4503599627370496 by decide]at this;rw[this,IntKind.wrap_u64];omega
theorem or_one (f:Nat)(hf:f<4503599627370496):bits .or .u64 (f:Int) 4503599627370496=((f+4503599627370496:Nat):Int):=by
 have e:bits .or .u64 (f:Int) 4503599627370496=IntKind.u64.wrap ((BitVec.ofInt 64 (f:Int) ||| BitVec.ofInt 64 ((4503599627370496:Nat):Int)).toNat:Int):=rfl;rw[e,bv_or f 4503599627370496 (by omega) (by omega)];have:=Nat.two_pow_add_eq_or_of_lt (i:=52) (b:=f) (by simpa using hf) 1;rw[Nat.mul_one,show (2:Nat)^52=4503599627370496 by decide,Nat.or_comm]at this;rw[←this,IntKind.wrap_u64];omega
theorem run_bits64 (x:Nat)(w:World):(callFunc 112 #[.float .f64 x]).run Tryz.prog w=.ok (.value (.int .u64 x)) w:=by
 rw[run_callFunc_extern Tryz.func112 (by kernel_rfl) (by kernel_rfl) (by kernel_rfl) (e:=Extern.MathFloatBits.float64bits) (by kernel_rfl)];rfl
def Ft64 (W0:World)(x:Nat)(t:By):Prop:=∀(w:World) (B:Nat) (v0:Value),OwnB B w v0 []→B≤w.heap.size→Env W0 w →
 Calls Tryz.prog 91 #[v0,.float .f64 x,.int .u8 102,.int .i64 12] w fun e w'=>∃v',e=.returned v'∧DstAt w w' v0 v' B t
theorem DstAt.pre {w w1 w2:World}{v0 v:Value}{B:Nat}{l:By}(h:DstAt w1 w2 v0 v B l)(hg:w.grownBy w1 none)(hB:B≤w.heap.size):DstAt w w2 v0 v B l:=by
 have hs:=hg.size;refine⟨h.own,(gr_weak hg _).trans h.gr,?_,hB⟩;rcases h.blk with e|⟨j,e,hj⟩
 ·exact .inl e
 ·exact .inr ⟨j,e,by omega⟩
theorem ft_zero (W0:World)(x:Nat)(neg:Bool)(hx:x=if neg then 9223372036854775808 else 0):Ft64 W0 x (ftxt neg [] 0):=by
 have hfb:=run_bits64
 have q2:∃hp:Nat,(x:Int)/4503599627370496=(hp:Int)∧hp<4096∧bits .and .i64 (hp:Int) 2047=0:=by
  refine⟨x/4503599627370496,by omega,by split at hx<;>omega,?_⟩;rw[and_exp _ (by split at hx<;>omega)]
  split at hx<;>(subst hx;rfl)
 obtain⟨hp,q2,q2b,q3⟩:=q2
 have q4:bits .and .u64 (x:Int) 4503599627370495=0:=by
  rw[and_frac x (by split at hx<;>omega)]
  split at hx<;>(subst hx;rfl)
 have hxl:x<18446744073709551616:=by split at hx<;>omega
 cases neg
 ·have q1:(x:Int)/9223372036854775808=0:=by simp at hx;omega
  clear hx;intro w B v0 hown hB hE;have Hown:=xhd hown;clear hown hE;go_enter Tryz.func91,Tryz.ntmps91;go_wp2_with fail
  go_quiet (fail);go_wp2_with fail
  refine(fmt_zero _ B v0 false (by exact Hown.out) (by exact hB) false).mono ?_;rintro e w1⟨v',rfl,hD⟩;have HD:=xhd hD;clear hD;go_wp2_with fail
  go_ret;exact⟨_,rfl,HD.out.pre (gr_drewN (xgr _ _) _) hB⟩
 ·have q1:(x:Int)/9223372036854775808=1:=by simp at hx;omega
  clear hx;intro w B v0 hown hB hE;have Hown:=xhd hown;clear hown hE;go_enter Tryz.func91,Tryz.ntmps91;go_wp2_with fail
  go_quiet (fail);go_wp2_with fail
  refine(fmt_zero _ B v0 true (by exact Hown.out) (by exact hB) false).mono ?_;rintro e w1⟨v',rfl,hD⟩;have HD:=xhd hD;clear hD;go_wp2_with fail
  go_ret;exact⟨_,rfl,HD.out.pre (gr_drewN (xgr _ _) _) hB⟩
theorem parts (x sg ef fr:Nat)(hx:x=sg*9223372036854775808+ef*4503599627370496+fr)(hs:sg≤1)(he:ef≤2046)(hf:fr<4503599627370496) :
  (x:Int)/9223372036854775808=(sg:Int)∧(∃hp:Nat,(x:Int)/4503599627370496=(hp:Int)∧hp<4096∧bits .and .i64 (hp:Int) 2047=(ef:Int))∧bits .and .u64 (x:Int) 4503599627370495=(fr:Int)∧x<18446744073709551616:=by
 refine⟨by omega,⟨x/4503599627370496,by omega,by omega,?_⟩,?_,by omega⟩
 ·rw[and_exp _ (by omega)]
  congr 1;omega
 ·rw[and_frac x (by omega)]
  congr 1;omega
theorem ft_sub (W0:World)(hF:FInit W0)(x sg fr:Nat)(hx:x=sg*9223372036854775808+0*4503599627370496+fr)(hs:sg≤1)(hf:fr<4503599627370496)(hf0:0<fr):Ft64 W0 x (ftxt (sg==1) [] 0):=by
 have hfb:=run_bits64;obtain⟨q1,⟨hp,q2,q2b,q3⟩,q4,hxl⟩:=parts x sg 0 fr hx hs (by omega) hf;clear hx;have hs2:sg=0∨sg=1:=by omega
 have hf1:((fr:Int)==0)=false:=by simp;omega
 have hf2:((fr:Int) != 0)=true:=by simp;omega
 have hd1:(1022:Int)*78913/262144=307:=by decide
 rcases hs2 with rfl|rfl
 ·intro w B v0 hown hB hE
  obtain⟨Hown,HE⟩:=xh2 hown hE;have hopt:=hE.cell hF.opt;clear hown hE;go_enter Tryz.func91,Tryz.ntmps91;go_wp2_with fail
  go_quiet (fail);go_wp2_with fail
  refine(l10_any _ _ (by omega) (by omega)).mono ?_;rintro e w1⟨rfl,hw⟩;subst w1;go_wp2_with fail
  refine(fmt_any _ B v0 false [] 0 (w.drewN nq).heap.size 24 24 (by simp) (by omega) (by omega) (by simp) (fun e=>by have:=(Hown.out.lt _ e);simp at this) (fun i c h=>by simp at h) (by exact OwnB.alloc (OwnB.drewN Hown.out _) _) (by simp;omega) (by omega) (by omega) false).mono ?_;rintro e w1⟨v',rfl,hD⟩;have HD:=xhd hD;clear hD;go_wp2_with fail
  go_ret;refine⟨_,rfl,HD.out.pre ?_ hB⟩;exact gr_alloc (gr_drewN (xgr _ _) _) _
 ·intro w B v0 hown hB hE
  obtain⟨Hown,HE⟩:=xh2 hown hE;have hopt:=hE.cell hF.opt;clear hown hE;go_enter Tryz.func91,Tryz.ntmps91;go_wp2_with fail
  go_quiet (fail);go_wp2_with fail
  refine(l10_any _ _ (by omega) (by omega)).mono ?_;rintro e w1⟨rfl,hw⟩;subst w1;go_wp2_with fail
  refine(fmt_any _ B v0 true [] 0 (w.drewN nq).heap.size 24 24 (by simp) (by omega) (by omega) (by simp) (fun e=>by have:=(Hown.out.lt _ e);simp at this) (fun i c h=>by simp at h) (by exact OwnB.alloc (OwnB.drewN Hown.out _) _) (by simp;omega) (by omega) (by omega) false).mono ?_;rintro e w1⟨v',rfl,hD⟩;have HD:=xhd hD;clear hD;go_wp2_with fail
  go_ret;refine⟨_,rfl,HD.out.pre ?_ hB⟩;exact gr_alloc (gr_drewN (xgr _ _) _) _
theorem ft_tiny (W0:World)(hF:FInit W0)(x sg ef fr:Nat)(hx:x=sg*9223372036854775808+ef*4503599627370496+fr)(hs:sg≤1)(he1:1≤ef)(he:ef≤979)(hf:fr<4503599627370496):Ft64 W0 x (ftxt (sg==1) [] 0):=by
 have hfb:=run_bits64;obtain⟨q1,⟨hp,q2,q2b,q3⟩,q4,hxl⟩:=parts x sg ef fr hx hs (by omega) hf;have q5:=or_one fr hf;obtain⟨mt,hmt⟩:∃mt,mt=fr+4503599627370496:=⟨_,rfl⟩;rw[←hmt]at q5;have hmt1:((mt:Int)==0)=false:=by simp;omega
 have hmt2:((mt:Int) != 0)=true:=by simp;omega
 have he3:((ef:Int)==0)=false:=by simp;omega
 have he4:((ef:Int)==2047)=false:=by simp;omega
 clear hx hmt;have hs2:sg=0∨sg=1:=by omega
 rcases hs2 with rfl|rfl
 ·intro w B v0 hown hB hE
  obtain⟨Hown,HE⟩:=xh2 hown hE;have hopt:=hE.cell hF.opt;clear hown hE;go_enter Tryz.func91,Tryz.ntmps91;go_wp2_with fail
  go_quiet (fail);go_wp2_with fail
  refine(l10_any _ _ (by omega) (by omega)).mono ?_;rintro e w1⟨rfl,hw⟩;subst w1;go_wp2_with fail
  refine(fmt_any _ B v0 false [] 0 (w.drewN nq).heap.size 24 24 (by simp) (by omega) (by omega) (by simp) (fun e=>by have:=(Hown.out.lt _ e);simp at this) (fun i c h=>by simp at h) (by exact OwnB.alloc (OwnB.drewN Hown.out _) _) (by simp;omega) (by omega) (by omega) false).mono ?_;rintro e w1⟨v',rfl,hD⟩;have HD:=xhd hD;clear hD;go_wp2_with fail
  go_ret;refine⟨_,rfl,HD.out.pre ?_ hB⟩;exact gr_alloc (gr_drewN (xgr _ _) _) _
 ·intro w B v0 hown hB hE
  obtain⟨Hown,HE⟩:=xh2 hown hE;have hopt:=hE.cell hF.opt;clear hown hE;go_enter Tryz.func91,Tryz.ntmps91;go_wp2_with fail
  go_quiet (fail);go_wp2_with fail
  refine(l10_any _ _ (by omega) (by omega)).mono ?_;rintro e w1⟨rfl,hw⟩;subst w1;go_wp2_with fail
  refine(fmt_any _ B v0 true [] 0 (w.drewN nq).heap.size 24 24 (by simp) (by omega) (by omega) (by simp) (fun e=>by have:=(Hown.out.lt _ e);simp at this) (fun i c h=>by simp at h) (by exact OwnB.alloc (OwnB.drewN Hown.out _) _) (by simp;omega) (by omega) (by omega) false).mono ?_;rintro e w1⟨v',rfl,hD⟩;have HD:=xhd hD;clear hD;go_wp2_with fail
  go_ret;refine⟨_,rfl,HD.out.pre ?_ hB⟩;exact gr_alloc (gr_drewN (xgr _ _) _) _
end Go.Proofs.YtfkecmlmnhbmoaaGreatDoor
