/- Parts F16 G14 G17 G16 G18 G19 G20. -/
import Derived.Test.YtfkecmlmnhbmoaaGreatDoorX25
set_option linter.unusedVariables false
set_option linter.unusedSimpArgs false
set_option maxRecDepth 100000
set_option maxHeartbeats 40000000
namespace Go.Proofs.YtfkecmlmnhbmoaaGreatDoor
open Go Go.RowKit
theorem a5J (w:World)(p:Int)(h1:-10000≤p)(h2:p≤10000):Calls Tryz.prog 161 #[.int .i64 p] w fun e w'=>e=.returned (.int .i64 (p*108853/32768))∧w'=w:=by
 go_enter Tryz.func161,Tryz.ntmps161;go_wp2_with fail
 go_ret;exact⟨rfl,rfl⟩
theorem b3t (w:World):Calls Tryz.prog 169 #[.int .u64 9007199254740992] w fun e w'=>e=.returned (.int .u64 36028797018963966)∧w'=w:=by
 go_enter Tryz.func169,Tryz.ntmps169;go_wp2_with fail
 go_ret;exact⟨rfl,rfl⟩
theorem b8x (w:World):Calls Tryz.prog 168 #[.bool true] w fun e w'=>e=.returned (.int .i64 1)∧w'=w:=by
 go_enter Tryz.func168,Tryz.ntmps168;go_wp2_with fail
 go_ret;exact⟨rfl,rfl⟩
theorem b8w (w:World):Calls Tryz.prog 168 #[.bool false] w fun e w'=>e=.returned (.int .i64 0)∧w'=w:=by
 go_enter Tryz.func168,Tryz.ntmps168;go_wp2_with fail
 go_ret;exact⟨rfl,rfl⟩
theorem b3B (n:Int)(h0:0≤n)(h1:n≤36028797018963969):0≤IntKind.u64.wrap n/4∧IntKind.u64.wrap n/4≤9007199254740992:=by rw[IntKind.wrap_u64];omega
theorem b5X (u:Int)(h0:0≤u)(h1:u≤36028797018963967):∃v:Int,(0≤v∧v≤9007199254740992)∧∀w:World,Calls Tryz.prog 166 #[.int .u64 u] w fun e w'=>e=.returned (.int .u64 v)∧w'=w:=by
 apply Exists.intro;refine⟨?_,fun w=>?_⟩
 rotate_left
 go_enter Tryz.func166,Tryz.ntmps166;go_wp2_with fail
 go_ret;exact⟨rfl,rfl⟩;have hx:0≤bits .and .u64 (u/4) 1∧bits .and .u64 (u/4) 1≤1:=a3J (u/4) 1 (by decide);refine b3B _ ?_ ?_<;>omega
theorem a4J (W0:World)(hF:a5t W0)(d:Nat)(hd:d<18446744073709551616)(p:Int)(hp1:-100≤p)(hp2:p≤20)(sg:Int)(hs:sg=0∨sg=9223372036854775808) :
  ∃x:Nat,nnF x∧∀w:World,Env W0 w→Calls Tryz.prog 154 #[.int .u64 d,.int .i64 p,.int .u64 sg] w fun e w'=>e=.returned (.tuple #[.float .f64 x,.nilIface])∧w.grownBy w' none:=by
 have hs0:0≤sg:=by omega
 have hs1:sg≤18446744073709551615:=by omega
 have Hs:=xhd hs;clear hs;obtain⟨i,hi⟩:∃i:Nat,p+348=i:=⟨(p+348).toNat,by omega⟩;obtain⟨hi9,lo9,hh,hl,t0,t1⟩:=hF.p10 i (by omega);obtain⟨bl,hbl⟩:∃bl,bl=Lib.bitLen d:=⟨_,rfl⟩;have hb64:bl≤64:=by rw[hbl];exact Lib.bitLen_le d 64 (Nat.le_refl _) (by omega)
 obtain⟨X,hX⟩:∃X:Nat,X<18446744073709551616∧IntKind.u64.wrap ((d:Int)*2^(64-bl))=X:=by
  refine⟨(IntKind.u64.wrap ((d:Int)*2^(64-bl))).toNat,?_,?_⟩
  all_goals rw[IntKind.wrap_u64];omega
 obtain⟨hX1,hX2⟩:=hX;obtain⟨u,⟨hu0,hu1⟩,hus⟩:=c2w X hi9 lo9 hX1 hh hl;have hlp1:-10000≤p*108853/32768:=by omega
 have hlp2:p*108853/32768≤10000:=by omega
 obtain⟨lp,hlp⟩:∃lp,lp=p*108853/32768:=⟨_,rfl⟩;have hlp3:-400≤lp:=by omega
 have hlp4:lp≤100:=by omega
 obtain⟨e0,he0⟩:∃e0,e0=min (1074:Int) (53-(bl:Int)-lp):=⟨_,rfl⟩;have he1:e0=53-(bl:Int)-lp:=by omega
 have he2:-600≤e0:=by omega
 have he3:e0≤600:=by omega
 have he4:min (1074:Int) (53-(bl:Int)-lp)=e0:=he0.symm;clear he0;obtain⟨He1,Hbl,Hlp⟩:=xh3 he1 hbl hlp;clear he1 hbl hlp
 have hx8:(64:Int)-(bl:Int)=((64-bl:Nat):Int):=by omega
 obtain⟨sh,hsh⟩:∃sh,sh=64-bl:=⟨_,rfl⟩;rw[←hsh]at hX2 hx8;have hsh64:sh≤64:=by omega
 have Hsh:=xhd hsh;clear hsh
 have h21:21<W0.heap.size:=World.block_lt_of_cell? _ _ t0;obtain⟨H21,HF,HT0,HT1,Hus⟩:=xh5 h21 hF t0 t1 hus;clear h21 hF t0 t1 hus
 rcases xbt (decide (36028797018963966≤u)) with hge|hge
 ·have hu9:=a3J u 1 (by decide)
  have hor:0≤bits BinOp.or IntKind.u64 (u/2) (bits BinOp.and IntKind.u64 u 1)∧bits BinOp.or IntKind.u64 (u/2) (bits BinOp.and IntKind.u64 u 1)≤36028797018963967:=b2m (by omega) (by simp only[decide_eq_true_eq,decide_eq_false_iff_not]at hge;omega) hu9.1 (Int.lt_of_le_of_lt hu9.2 (by decide));obtain⟨v,⟨hv0,hv1⟩,Hrn⟩:=b5X (bits BinOp.or IntKind.u64 (u/2) (bits BinOp.and IntKind.u64 u 1)) hor.1 hor.2;have hsn:=b2o Hs.out hv0 hv1;obtain⟨x,Hnn,Hpk⟩:=b2q (bits BinOp.or IntKind.u64 sg v) (-(e0-1)) hsn.1 hsn.2.1 hsn.2.2 (by omega) (by have:=He1.out;omega);clear hu9 hor hsn;obtain⟨HRN,HPK⟩:=xh2 Hrn Hpk;clear Hrn Hpk;replace hv1:v≤18446744073709551615:=by omega
  refine⟨x,Hnn,fun w hE=>?_⟩;clear Hnn;have hwz:=hE.1;go_enter Tryz.func154,Tryz.ntmps154;go_wp2_with fail
  refine(Tryz.bits_Len64 d _ (by omega) (by omega)).mono ?_;rintro e w1⟨rfl,hw⟩;subst w1;rw[Int.toNat_natCast,←Hbl.out];go_wp2_with fail
  refine(a5J _ p (by omega) (by omega)).mono ?_;rintro e w1⟨rfl,hw⟩;subst w1;rw[←Hlp.out];go_wp2_with fail
  have hnew:=heap_alloc_new w (.cells #[.int .u64 0,.int .u64 0,.int .i64 0] 240 (0,0));refine(a5Y _ w.heap.size _ p lp i hi9 lo9 240 _ _ _ hi (by omega) (by have:=H21.out;omega) (by rw[World.cell?_alloc_past _ _ _ (by have:=H21.out;simp;omega)];exact hE.cell HT0.out) (by rw[World.cell?_alloc_past _ _ _ (by have:=H21.out;simp;omega)];exact hE.cell HT1.out) (by exact hnew) (by omega) (by omega) (by omega) (by omega)).mono ?_;rintro e w1⟨rfl,hb1,hg1⟩;rw[show -(e0-(sh:Int)+lp+3)=8 by have:=He1.out;have:=Hsh.out;omega]at hb1;have d0:w1.cell? ⟨w.heap.size,0,none⟩=some (.int .u64 hi9):=by simp[World.cell?,hb1]
  have d1:w1.cell? ⟨w.heap.size,1,none⟩=some (.int .u64 lo9):=by simp[World.cell?,hb1]
  have d2:w1.cell? ⟨w.heap.size,2,none⟩=some (.int .i64 8):=by simp[World.cell?,hb1]
  have HG1:=xhd (show w.grownBy w1 none from a0g (a0a (xgr w none) _) hg1 (fun j hj=>by injection hj with hj;omega));clear hg1 hb1 hnew;go_wp2_with fail
  refine(Hus.out w1 w.heap.size d0 d1 d2).mono ?_;rintro e w2⟨rfl,nn,rfl⟩;go_wp2_with fail
  refine(b3t _).mono ?_;rintro e w2⟨rfl,hw⟩;subst w2;go_wp2_with fail
  first
   | refine(b8x _).mono ?_
   | refine(b8w _).mono ?_
  rintro e w2⟨rfl,hw⟩;subst w2;go_wp2_with fail
  refine(HRN.out _).mono ?_;rintro e w2⟨rfl,hw⟩;subst w2;go_wp2_with fail
  refine(HPK.out _).mono ?_;rintro e w2⟨rfl,hw⟩;subst w2;go_wp2_with fail
  go_ret2;exact⟨rfl,a0b HG1.out _⟩
 ·have hu9:=a3J u 1 (by decide)
  have hor:0≤bits BinOp.or IntKind.u64 (u) (bits BinOp.and IntKind.u64 u 1)∧bits BinOp.or IntKind.u64 (u) (bits BinOp.and IntKind.u64 u 1)≤36028797018963967:=b2m (by omega) (by simp only[decide_eq_true_eq,decide_eq_false_iff_not]at hge;omega) hu9.1 (Int.lt_of_le_of_lt hu9.2 (by decide));obtain⟨v,⟨hv0,hv1⟩,Hrn⟩:=b5X (bits BinOp.or IntKind.u64 (u) (bits BinOp.and IntKind.u64 u 1)) hor.1 hor.2;have hsn:=b2o Hs.out hv0 hv1;obtain⟨x,Hnn,Hpk⟩:=b2q (bits BinOp.or IntKind.u64 sg v) (-e0) hsn.1 hsn.2.1 hsn.2.2 (by omega) (by have:=He1.out;omega);clear hu9 hor hsn;obtain⟨HRN,HPK⟩:=xh2 Hrn Hpk;clear Hrn Hpk;replace hv1:v≤18446744073709551615:=by omega
  refine⟨x,Hnn,fun w hE=>?_⟩;clear Hnn;have hwz:=hE.1;go_enter Tryz.func154,Tryz.ntmps154;go_wp2_with fail
  refine(Tryz.bits_Len64 d _ (by omega) (by omega)).mono ?_;rintro e w1⟨rfl,hw⟩;subst w1;rw[Int.toNat_natCast,←Hbl.out];go_wp2_with fail
  refine(a5J _ p (by omega) (by omega)).mono ?_;rintro e w1⟨rfl,hw⟩;subst w1;rw[←Hlp.out];go_wp2_with fail
  have hnew:=heap_alloc_new w (.cells #[.int .u64 0,.int .u64 0,.int .i64 0] 240 (0,0));refine(a5Y _ w.heap.size _ p lp i hi9 lo9 240 _ _ _ hi (by omega) (by have:=H21.out;omega) (by rw[World.cell?_alloc_past _ _ _ (by have:=H21.out;simp;omega)];exact hE.cell HT0.out) (by rw[World.cell?_alloc_past _ _ _ (by have:=H21.out;simp;omega)];exact hE.cell HT1.out) (by exact hnew) (by omega) (by omega) (by omega) (by omega)).mono ?_;rintro e w1⟨rfl,hb1,hg1⟩;rw[show -(e0-(sh:Int)+lp+3)=8 by have:=He1.out;have:=Hsh.out;omega]at hb1;have d0:w1.cell? ⟨w.heap.size,0,none⟩=some (.int .u64 hi9):=by simp[World.cell?,hb1]
  have d1:w1.cell? ⟨w.heap.size,1,none⟩=some (.int .u64 lo9):=by simp[World.cell?,hb1]
  have d2:w1.cell? ⟨w.heap.size,2,none⟩=some (.int .i64 8):=by simp[World.cell?,hb1]
  have HG1:=xhd (show w.grownBy w1 none from a0g (a0a (xgr w none) _) hg1 (fun j hj=>by injection hj with hj;omega));clear hg1 hb1 hnew;go_wp2_with fail
  refine(Hus.out w1 w.heap.size d0 d1 d2).mono ?_;rintro e w2⟨rfl,nn,rfl⟩;go_wp2_with fail
  refine(b3t _).mono ?_;rintro e w2⟨rfl,hw⟩;subst w2;go_wp2_with fail
  first
   | refine(b8x _).mono ?_
   | refine(b8w _).mono ?_
  rintro e w2⟨rfl,hw⟩;subst w2;go_wp2_with fail
  refine(HRN.out _).mono ?_;rintro e w2⟨rfl,hw⟩;subst w2;go_wp2_with fail
  refine(HPK.out _).mono ?_;rintro e w2⟨rfl,hw⟩;subst w2;go_wp2_with fail
  go_ret2;exact⟨rfl,a0b HG1.out _⟩
def b9n:By:=[47,60,40,91,93,62,37]
theorem a8n (pf:By→Nat)(l:By)(ho:a0t l false=false)(hw:a0c l≠[])(hn:(numF pf (a0c l)).2.2.2≠1)(hl:l.length≤1000000)(w:World) :
  Calls Tryz.prog 137 #[.string (bs l)] w fun e w'=>e=.returned (.tuple #[.string (bs (a0c l)),.string (bs (a0k l)),.int .i64 (if a0k l=[] then -1 else ((a0c l).length:Int))])∧Below w.heap.size w w':=by
 have hpos:=a8U (bs l) b9n (by decide) (by decide);rw[b0i b9n (by decide) (by decide) ho]at hpos;obtain⟨y,hy⟩:∃y,y=bs l:=⟨_,rfl⟩;have hys:y.size=l.length:=by rw[hy,a0f]
 have hwl:(a0c l).length≤l.length:=(List.takeWhile_sublist _).length_le
 have hx1:y.extract 0 (a0c l).length=bs (a0c l):=by
  rw[hy,a3U];congr 1
  conv=>lhs;arg 2;rw[←a0D (l:=l)]
  simp
 have hx2:y.extract (a0c l).length y.size=bs (a0k l):=by
  rw[hys,hy,a2u];congr 1
  conv=>lhs;arg 2;rw[←a0D (l:=l)]
  simp
 have hx3:y.extract y.size y.size=bs []:=by rw[hys,hy,a2u];simp
 have hyR:a0k l=[]→y=bs (a0c l):=by
  intro e;rw[hy]
  conv=>lhs;rw[←a0D (l:=l),e,List.append_nil]
 have hch:=a5S hn;rw[←hy]at hpos⊢;obtain⟨W,hW⟩:∃W,W=a0c l:=⟨_,rfl⟩;obtain⟨R,hR⟩:∃R,R=a0k l:=⟨_,rfl⟩;rw[←hW]at hpos hwl hx1 hx2 hyR hch hw⊢;rw[←hR]at hpos hx2 hyR⊢;have hW1:0<W.length:=List.length_pos_iff.2 hw;have hle:W.length≤y.size:=by omega
 obtain⟨HyR,Hch⟩:=xh2 hyR hch;clear hW hR hy hys hn ho hyR hch hw;obtain⟨u,hu⟩:∃u,u=bs W:=⟨_,rfl⟩;have hus:u.size=W.length:=by rw[hu,a0f]
 have hub:∀(i:Nat) (hk:i<u.size),∃h2:i<W.length,u[i]'hk=W[i]'h2:=by
  intro i hk;refine⟨by omega,?_⟩;simp only[hu];exact b5J W i (by rw[a0f];omega)
 rw[←hu]at hx1 HyR⊢;obtain⟨Hub,Hu,Hus⟩:=xh3 hub hu hus;have hul:u.size≤1000000:=by omega
 have hWl:W.length≤1000000:=by omega
 clear hub hu hus
 by_cases hRn:R=[]
 ·subst hRn
  have hyu:=(HyR.out rfl).symm;subst hyu;simp only[if_true]at hpos⊢;go_enter Tryz.func137,Tryz.ntmps137;go_wp2_with fail
  refine(hpos _).mono ?_;rintro e w2⟨⟨v,rfl⟩,hb2⟩;clear hx1 hx2 hpos HyR
  cases hWc:W with
  | nil=>rw[hWc]at hW1;simp at hW1
  | cons c W1 =>
   have hg0:∀hk:0<u.size,u[0]'hk=c:=fun hk=>by rw[(Hub.out 0 hk).2];simp[hWc]
   have hk0:0<u.size:=by rw[Hus.out];omega
   have hg0':=hg0 hk0
   cases W1 with
   | nil =>
    have hl1:¬(1:Int)<u.size:=by rw[Hus.out,hWc];simp
    clear hWc;have y30:∀(a b c:Value),([a,b,c]:List Value)[0]?=some a:=fun _ _ _=>rfl;have y31:∀(a b c:Value),([a,b,c]:List Value)[1]?=some b:=fun _ _ _=>rfl;have y32:∀(a b c:Value),([a,b,c]:List Value)[2]?=some c:=fun _ _ _=>rfl;go_wp2_with fail
    refine bodyPost_ret (v:=.tuple #[.string u,.string ⟨#[]⟩,.int .i64 (-1)]) (by simp[results,Tryz.results137,go_sem]<;>rfl) rfl ⟨rfl,hb2⟩
   | cons d W2 =>
    have hl1:(1:Int)<u.size:=by rw[Hus.out,hWc];simp;omega
    have hk1:1<u.size:=by omega
    have hg1:u[1]'hk1=d:=by rw[(Hub.out 1 hk1).2];simp[hWc]
    rcases xbt ((c.toNat:Int)==48) with h48|h48
    ·have hall:∀x∈W,a0F (x.toNat:Int)=true∨(x.toNat:Int)=46:=by
      have:=Hch.out;rw[hWc]at this⊢;simp only[a0i]at this;rw[if_neg (by simp at h48⊢;omega)]at this;exact this
     have hd:=hall d (by rw[hWc];simp);simp only[a0F]at hd;have Hall:=xhd hall;clear hall hWc;have h43:((d.toNat:Int)==43)=false:=by simp at hd⊢;omega
     have h45:((d.toNat:Int)==45)=false:=by simp at hd⊢;omega
     clear hd;rcases xbt ((d.toNat:Int)==46) with h46|h46
     ·go_wp2_with fail
      go_loopg [9] u.size (fun g t9 wr=>∃i:Nat,t9=.int .i64 i∧i≤u.size∧u.size≤g+i∧wr=w2)
      case atStart=>exact⟨2,rfl,by omega,by omega,rfl⟩
      case round =>
       obtain⟨i,rfl,hi,hg,hwr⟩:=hrel;subst wr
       by_cases hiu:i<u.size
       ·have hgi:=Hub.out i hiu
        obtain⟨x,hx⟩:∃x,x=u[i]'hiu:=⟨_,rfl⟩;have hx2:=Hall.out x (by rw[hx,hgi.2];exact List.getElem_mem _);simp only[a0F]at hx2;have hxg:u[i]'hiu=x:=hx.symm;clear hgi hx;rcases xbt ((x.toNat:Int)==48) with hx48|hx48
        ·go_wp2_with fail
         go_roundg (gk-1)
         case measure=>omega
         case rel=>exact⟨i+1,rfl,by omega,by omega,rfl⟩
        ·have hx43:((x.toNat:Int)==43)=false:=by simp at hx2⊢;omega
         have hx45:((x.toNat:Int)==45)=false:=by simp at hx2⊢;omega
         clear hx2;have y30:∀(a b c:Value),([a,b,c]:List Value)[0]?=some a:=fun _ _ _=>rfl;have y31:∀(a b c:Value),([a,b,c]:List Value)[1]?=some b:=fun _ _ _=>rfl;have y32:∀(a b c:Value),([a,b,c]:List Value)[2]?=some c:=fun _ _ _=>rfl;go_wp2_with fail
         refine bodyPost_ret (v:=.tuple #[.string u,.string ⟨#[]⟩,.int .i64 (-1)]) (by simp[results,Tryz.results137,go_sem]<;>rfl) rfl ⟨rfl,hb2⟩
       ·have y30:∀(a b c:Value),([a,b,c]:List Value)[0]?=some a:=fun _ _ _=>rfl
        have y31:∀(a b c:Value),([a,b,c]:List Value)[1]?=some b:=fun _ _ _=>rfl;have y32:∀(a b c:Value),([a,b,c]:List Value)[2]?=some c:=fun _ _ _=>rfl;go_wp2_with fail
        refine bodyPost_ret (v:=.tuple #[.string u,.string ⟨#[]⟩,.int .i64 (-1)]) (by simp[results,Tryz.results137,go_sem]<;>rfl) rfl ⟨rfl,hb2⟩
     ·have y30:∀(a b c:Value),([a,b,c]:List Value)[0]?=some a:=fun _ _ _=>rfl
      have y31:∀(a b c:Value),([a,b,c]:List Value)[1]?=some b:=fun _ _ _=>rfl;have y32:∀(a b c:Value),([a,b,c]:List Value)[2]?=some c:=fun _ _ _=>rfl;go_wp2_with fail
      refine bodyPost_ret (v:=.tuple #[.string u,.string ⟨#[]⟩,.int .i64 (-1)]) (by simp[results,Tryz.results137,go_sem]<;>rfl) rfl ⟨rfl,hb2⟩
    ·clear hWc
     have y30:∀(a b c:Value),([a,b,c]:List Value)[0]?=some a:=fun _ _ _=>rfl;have y31:∀(a b c:Value),([a,b,c]:List Value)[1]?=some b:=fun _ _ _=>rfl;have y32:∀(a b c:Value),([a,b,c]:List Value)[2]?=some c:=fun _ _ _=>rfl;go_wp2_with fail
     refine bodyPost_ret (v:=.tuple #[.string u,.string ⟨#[]⟩,.int .i64 (-1)]) (by simp[results,Tryz.results137,go_sem]<;>rfl) rfl ⟨rfl,hb2⟩
 ·rw[if_neg hRn]at hpos⊢
  obtain⟨n,hn⟩:∃n,n=W.length:=⟨_,rfl⟩;have hn0:0<n:=by omega
  have hn1:n≤1000000:=by omega
  rw[←hn]at hx1 hx2 hle hpos⊢;have Hn:=xhd hn;clear hn;go_enter Tryz.func137,Tryz.ntmps137;go_wp2_with fail
  refine(hpos _).mono ?_;rintro e w2⟨⟨v,rfl⟩,hb2⟩;clear hpos HyR
  cases hWc:W with
  | nil=>rw[hWc]at hW1;simp at hW1
  | cons c W1 =>
   have hg0:∀hk:0<u.size,u[0]'hk=c:=fun hk=>by rw[(Hub.out 0 hk).2];simp[hWc]
   have hk0:0<u.size:=by rw[Hus.out];omega
   have hg0':=hg0 hk0
   cases W1 with
   | nil =>
    have hl1:¬(1:Int)<u.size:=by rw[Hus.out,hWc];simp
    clear hWc;have y30:∀(a b c:Value),([a,b,c]:List Value)[0]?=some a:=fun _ _ _=>rfl;have y31:∀(a b c:Value),([a,b,c]:List Value)[1]?=some b:=fun _ _ _=>rfl;have y32:∀(a b c:Value),([a,b,c]:List Value)[2]?=some c:=fun _ _ _=>rfl;go_wp2_with fail
    refine bodyPost_ret (v:=.tuple #[.string u,.string (bs R),.int .i64 (n:Int)]) (by simp[results,Tryz.results137,go_sem]<;>rfl) rfl ⟨rfl,hb2⟩
   | cons d W2 =>
    have hl1:(1:Int)<u.size:=by rw[Hus.out,hWc];simp;omega
    have hk1:1<u.size:=by omega
    have hg1:u[1]'hk1=d:=by rw[(Hub.out 1 hk1).2];simp[hWc]
    rcases xbt ((c.toNat:Int)==48) with h48|h48
    ·have hall:∀x∈W,a0F (x.toNat:Int)=true∨(x.toNat:Int)=46:=by
      have:=Hch.out;rw[hWc]at this⊢;simp only[a0i]at this;rw[if_neg (by simp at h48⊢;omega)]at this;exact this
     have hd:=hall d (by rw[hWc];simp);simp only[a0F]at hd;have Hall:=xhd hall;clear hall hWc;have h43:((d.toNat:Int)==43)=false:=by simp at hd⊢;omega
     have h45:((d.toNat:Int)==45)=false:=by simp at hd⊢;omega
     clear hd;rcases xbt ((d.toNat:Int)==46) with h46|h46
     ·go_wp2_with fail
      go_loopg [9] u.size (fun g t9 wr=>∃i:Nat,t9=.int .i64 i∧i≤u.size∧u.size≤g+i∧wr=w2)
      case atStart=>exact⟨2,rfl,by omega,by omega,rfl⟩
      case round =>
       obtain⟨i,rfl,hi,hg,hwr⟩:=hrel;subst wr
       by_cases hiu:i<u.size
       ·have hgi:=Hub.out i hiu
        obtain⟨x,hx⟩:∃x,x=u[i]'hiu:=⟨_,rfl⟩;have hx2:=Hall.out x (by rw[hx,hgi.2];exact List.getElem_mem _);simp only[a0F]at hx2;have hxg:u[i]'hiu=x:=hx.symm;clear hgi hx;rcases xbt ((x.toNat:Int)==48) with hx48|hx48
        ·go_wp2_with fail
         go_roundg (gk-1)
         case measure=>omega
         case rel=>exact⟨i+1,rfl,by omega,by omega,rfl⟩
        ·have hx43:((x.toNat:Int)==43)=false:=by simp at hx2⊢;omega
         have hx45:((x.toNat:Int)==45)=false:=by simp at hx2⊢;omega
         clear hx2;have y30:∀(a b c:Value),([a,b,c]:List Value)[0]?=some a:=fun _ _ _=>rfl;have y31:∀(a b c:Value),([a,b,c]:List Value)[1]?=some b:=fun _ _ _=>rfl;have y32:∀(a b c:Value),([a,b,c]:List Value)[2]?=some c:=fun _ _ _=>rfl;go_wp2_with fail
         refine bodyPost_ret (v:=.tuple #[.string u,.string (bs R),.int .i64 (n:Int)]) (by simp[results,Tryz.results137,go_sem]<;>rfl) rfl ⟨rfl,hb2⟩
       ·have y30:∀(a b c:Value),([a,b,c]:List Value)[0]?=some a:=fun _ _ _=>rfl
        have y31:∀(a b c:Value),([a,b,c]:List Value)[1]?=some b:=fun _ _ _=>rfl;have y32:∀(a b c:Value),([a,b,c]:List Value)[2]?=some c:=fun _ _ _=>rfl;go_wp2_with fail
        refine bodyPost_ret (v:=.tuple #[.string u,.string (bs R),.int .i64 (n:Int)]) (by simp[results,Tryz.results137,go_sem]<;>rfl) rfl ⟨rfl,hb2⟩
     ·have y30:∀(a b c:Value),([a,b,c]:List Value)[0]?=some a:=fun _ _ _=>rfl
      have y31:∀(a b c:Value),([a,b,c]:List Value)[1]?=some b:=fun _ _ _=>rfl;have y32:∀(a b c:Value),([a,b,c]:List Value)[2]?=some c:=fun _ _ _=>rfl;go_wp2_with fail
      refine bodyPost_ret (v:=.tuple #[.string u,.string (bs R),.int .i64 (n:Int)]) (by simp[results,Tryz.results137,go_sem]<;>rfl) rfl ⟨rfl,hb2⟩
    ·clear hWc
     have y30:∀(a b c:Value),([a,b,c]:List Value)[0]?=some a:=fun _ _ _=>rfl;have y31:∀(a b c:Value),([a,b,c]:List Value)[1]?=some b:=fun _ _ _=>rfl;have y32:∀(a b c:Value),([a,b,c]:List Value)[2]?=some c:=fun _ _ _=>rfl;go_wp2_with fail
     refine bodyPost_ret (v:=.tuple #[.string u,.string (bs R),.int .i64 (n:Int)]) (by simp[results,Tryz.results137,go_sem]<;>rfl) rfl ⟨rfl,hb2⟩
theorem a6z (i g:Int)(w:World):Calls Tryz.prog 38 #[.int .i64 i,.int .i64 g] w fun e w'=>e=.returned (.pointer (some ⟨w.heap.size,0,none⟩))∧w'=w.alloc (.cells #[.int .i64 i,.int .i64 g] 73 (0,0)):=by
 go_enter Tryz.func38,Tryz.ntmps38
 go_wp2
 go_ret;exact⟨rfl,rfl⟩
def intI (i:Int):Ending:=.returned (.tuple #[.iface 67 (.int .i64 i),.nilIface])
def refI (i g:Int):Ending:=.returned (.tuple #[.iface 73 (.agg #[.int .i64 i,.int .i64 g]),.nilIface])
def b6i (w w':World)(b:Nat)(L1 c:By)(i g:Int)(e:Ending):Prop :=
 ((c.head?=some 82∧e=refI i g∧a0v w' b c.tail)∨(c.head?≠some 82∧e=intI i∧a0v w' b L1))∧w.grownBy w' (some b)
theorem b6R (W0 w:World)(hI:a3M W0)(hE:Env W0 w)(b:Nat)(S L L1 l0:By)(i i2:Int)(hL:a0v w b l0)(hS:∀u,Lib.atoiAll S≠.ok u)(hSl:S.length≤1000000) :
  Calls Tryz.prog 141 #[.string (bs S),.string (bs L),.string (bs L1),.pointer (some ⟨b,0,none⟩),.int .i64 i,.int .i64 i2] w fun e w'=>e=intI i∧a0v w' b L1∧w.grownBy w' (some b):=by
 have hat:=a6R W0 w hI.init hE (bs S) (by rw[a0f];omega);rw[a1D]at hat;obtain⟨HS,HL⟩:=xh2 hS hL;clear hS hL hI hE;go_enter Tryz.func141,Tryz.ntmps141;go_wp2_with fail
 refine hat.mono ?_;rintro e w1⟨hg1,⟨v,hv,rfl⟩|⟨v,N,hv,rfl⟩⟩
 ·exact absurd hv (HS.out v)
 ·have hL1:=HL.out.keep hg1 (by simp)
  obtain⟨c1,f1⟩:=hL1.cell;have HL1:=xhd hL1;have HG1:=xhd (hg1.but (some b));clear hat hv hL1 hg1;go_wp2_with fail
  go_ret2;exact⟨rfl,HL1.out.set _,a0e HG1.out _ _⟩
theorem b8Q (W0 w:World)(hI:a3M W0)(hE:Env W0 w)(b:Nat)(S L L1 l0 c:By)(i g:Int)(i2:Nat)(hL:a0v w b l0)(hS:Lib.atoiAll S=.ok g)(hSl:S.length≤1000000)(hLl:L.length≤1000000)(hi2:i2≤L.length)(hp:a0j false (L.drop i2) false=(c,false))(hc:∀x∈c.head?,a0s (x.toNat:Int)=true) :
  Calls Tryz.prog 141 #[.string (bs S),.string (bs L),.string (bs L1),.pointer (some ⟨b,0,none⟩),.int .i64 i,.int .i64 i2] w fun e w'=>b6i w w' b L1 c i g e:=by
 have hat:=a6R W0 w hI.init hE (bs S) (by rw[a0f];omega);rw[a1D]at hat;obtain⟨HS,HL⟩:=xh2 hS hL;obtain⟨z,hz⟩:∃z,z=bs L:=⟨_,rfl⟩;have hzs:i2≤z.size:=by rw[hz,a0f];exact hi2
 have hx:z.extract i2 z.size=bs (L.drop i2):=by rw[hz,a0f,a2u]
 have htr:=fun w=>a1H (L.drop i2) c w hp hc;rw[←hz];have hzl:z.size≤1000000:=by rw[hz,a0f];exact hLl
 clear hS hL hI hE hz;go_enter Tryz.func141,Tryz.ntmps141;go_wp2_with fail
 refine hat.mono ?_;rintro e w1⟨hg1,⟨v,hv,rfl⟩|⟨v,N,hv,rfl⟩⟩
 ·obtain rfl:v=g:=by rw[HS.out]at hv;injection hv with hv;exact hv.symm
  have HG1:=xhd hg1;clear hat hv hg1;go_wp2_with fail
  refine(htr _).mono ?_;rintro e w2⟨⟨q,hq,rfl⟩,hb2⟩;have hg2:=HG1.out.trans (a0o hb2);have hL2:=HL.out.keep hg2 (by simp);obtain⟨c2,f2⟩:=hL2.cell;have hlt2:=hL2.lt;have HL2:=xhd hL2;have HG2:=xhd (hg2.but (some b));clear htr hL2 hg2 hb2
  cases q with
  | nil =>
   have hcn:c=[]:=by rcases hq with h|⟨h,h'⟩;exact h.symm;simp at h'
   subst hcn;have hz0:(((bs ([]:By)).size:Int)==0)=true:=by rw[a0f];rfl
   go_wp2_with fail
   go_ret2;exact⟨.inr ⟨by simp,rfl,HL2.out.set _⟩,a0e HG2.out _ _⟩
  | cons x q =>
   have hz0:(((bs (x::q)).size:Int)==0)=false:=by rw[a0f];simp only[List.length_cons,beq_eq_false_iff_ne];omega
   obtain⟨hk,hget⟩:=a3k (l:=x::q) (pre:=[]) (c:=x) (post:=q) rfl;have hk0:0<(bs (x::q)).size:=hk;have hg0:(bs (x::q))[0]'hk0=x:=hget;clear hk hget;have hfw:=fun w=>a2J (x::q) 1 w;generalize hyy:bs (x::q)=y at hk0 hg0 hz0 hfw⊢;clear hyy;rcases xbt ((x.toNat:Int)==82) with h82|h82
   ·have hx82:x=82:=by apply UInt8.toNat_inj.1;simp at h82⊢;omega
    have hcx:c=x::q:=by
     rcases hq with h|⟨_,h⟩
     ·exact h.symm
     ·simp at h;rw[h.1]at hx82;exact absurd hx82 (by decide)
    obtain⟨Hcx,Hx82⟩:=xh2 hcx hx82;clear hq hcx hx82;go_wp2_with fail
    refine(hfw _).mono ?_;rintro e w3⟨rfl,hw3⟩;subst w3;go_wp2_with fail
    refine(a6z i v _).mono ?_;rintro e w3⟨rfl,hw3⟩;subst w3;have hlt3:b<(w2.setCell ⟨b,0,none⟩ (.string (bs q))).heap.size:=by simpa using hlt2
    have hLq:=HL2.out.set q;have hgq:=a0e HG2.out 0 (.string (bs q));obtain⟨W,hW⟩:∃W,W=w2.setCell ⟨b,0,none⟩ (.string (bs q)):=⟨_,rfl⟩;rw[←hW]at hlt3 hLq hgq⊢;have a0:=heap_alloc_new W (.cells #[.int .i64 i,.int .i64 v] 73 (0,0));have d0:(W.alloc (.cells #[.int .i64 i,.int .i64 v] 73 (0,0))).cell? ⟨W.heap.size,0,none⟩=some (.int .i64 i):=by simp only[World.cell?,a0];rfl
    have d1:(W.alloc (.cells #[.int .i64 i,.int .i64 v] 73 (0,0))).cell? ⟨W.heap.size,1,none⟩=some (.int .i64 v):=by simp only[World.cell?,a0];rfl
    obtain⟨HLq,HGq⟩:=xh2 hLq hgq;clear hW hLq hgq a0 c2 f2;go_wp2_with fail
    go_ret2;exact⟨.inl ⟨by rw[Hcx.out,Hx82.out];rfl,rfl,by rw[Hcx.out];exact HLq.out.keep (a0a (xgr _ none) _) (by simp)⟩,a0a HGq.out _⟩
   ·have hx82:c.head?≠some 82:=by
     intro e;rcases hq with h|⟨h,_⟩
     ·rw[←h]at e;simp at e;rw[e]at h82;exact absurd h82 (by decide)
     ·rw[h]at e;simp at e
    clear hq;go_wp2_with fail
    go_ret2;exact⟨.inr ⟨hx82,rfl,HL2.out.set _⟩,a0e HG2.out _ _⟩
 ·rw[HS.out]at hv;exact absurd rfl (hv g)
theorem a6S {l:By}{a b c d:UInt8}{r:By}(h:l=a::b::c::d::r):(bs l).extract 0 4=bs [a,b,c,d]:=by rw[a1B,h];rfl
theorem b3R (l r:By)(h:l=110::117::108::108::r)(hl:l.length≤1000000)(w:World):Calls Tryz.prog 103 #[.string (bs l)] w fun e w'=>e=.returned (.tuple #[.nilIface,.string (bs [110,117,108,108]),.bool true])∧Below w.heap.size w w':=by
 have hx:=a6S h;obtain⟨z,hz⟩:∃z,z=bs l:=⟨_,rfl⟩;rw[←hz]at hx⊢;have hzs:4≤z.size:=by rw[hz,a0f,h];simp
 have hz4:¬z.size<4:=by omega
 clear hz h;have e1:(⟨#[110,117,108,108]⟩:ByteArray)=bs [110,117,108,108]:=rfl;go_enter Tryz.func103,Tryz.ntmps103;go_wp2_with fail
 refine(a2v [110,117,108,108] (by decide) w).mono ?_;rintro e w1⟨rfl,hb1⟩;have hlo:([110,117,108,108]:By).map loB=[110,117,108,108]:=by decide
 rw[hlo];go_wp2_with fail
 refine(a0L [110,117,108,108] [110,117,108,108] true (by decide) w1).mono ?_;rintro e w2⟨rfl,hw2⟩;subst w2;have y30:∀(a b c:Value),([a,b,c]:List Value)[0]?=some a:=fun _ _ _=>rfl;have y31:∀(a b c:Value),([a,b,c]:List Value)[1]?=some b:=fun _ _ _=>rfl;have y32:∀(a b c:Value),([a,b,c]:List Value)[2]?=some c:=fun _ _ _=>rfl;go_wp2_with fail
 refine bodyPost_ret (v:=.tuple #[.nilIface,.string (bs [110,117,108,108]),.bool true]) (by simp[results,Tryz.results103,go_sem]<;>rfl) rfl ⟨rfl,hb1⟩
theorem b3S (l r:By)(h:l=116::114::117::101::r)(hl:l.length≤1000000)(w:World):Calls Tryz.prog 103 #[.string (bs l)] w fun e w'=>e=.returned (.tuple #[.iface 66 (.bool true),.string (bs [116,114,117,101]),.bool true])∧Below w.heap.size w w':=by
 have hx:=a6S h;obtain⟨z,hz⟩:∃z,z=bs l:=⟨_,rfl⟩;rw[←hz]at hx⊢;have hzs:4≤z.size:=by rw[hz,a0f,h];simp
 have hz4:¬z.size<4:=by omega
 clear hz h;have e1:(⟨#[110,117,108,108]⟩:ByteArray)=bs [110,117,108,108]:=rfl;have e2:(⟨#[116,114,117,101]⟩:ByteArray)=bs [116,114,117,101]:=rfl;go_enter Tryz.func103,Tryz.ntmps103;go_wp2_with fail
 refine(a2v [116,114,117,101] (by decide) w).mono ?_;rintro e w1⟨rfl,hb1⟩;have hlo:([116,114,117,101]:By).map loB=[116,114,117,101]:=by decide
 rw[hlo];go_wp2_with fail
 refine(a0L [116,114,117,101] [110,117,108,108] false (by decide) w1).mono ?_;rintro e w2⟨rfl,hw2⟩;subst w2;go_wp2_with fail
 refine(a0L [116,114,117,101] [116,114,117,101] true (by decide) w1).mono ?_;rintro e w2⟨rfl,hw2⟩;subst w2;have y30:∀(a b c:Value),([a,b,c]:List Value)[0]?=some a:=fun _ _ _=>rfl;have y31:∀(a b c:Value),([a,b,c]:List Value)[1]?=some b:=fun _ _ _=>rfl;have y32:∀(a b c:Value),([a,b,c]:List Value)[2]?=some c:=fun _ _ _=>rfl;go_wp2_with fail
 refine bodyPost_ret (v:=.tuple #[.iface 66 (.bool true),.string (bs [116,114,117,101]),.bool true]) (by simp[results,Tryz.results103,go_sem]<;>rfl) rfl ⟨rfl,hb1⟩
theorem b1k (l r:By)(h:l=102::97::108::115::101::r)(hl:l.length≤1000000)(w:World):Calls Tryz.prog 103 #[.string (bs l)] w fun e w'=>e=.returned (.tuple #[.iface 66 (.bool false),.string (bs [102,97,108,115,101]),.bool true])∧Below w.heap.size w w':=by
 have hx:=a6S h;have hx2:(bs l).extract 4 5=bs [101]:=by rw[a1B,h];rfl
 obtain⟨z,hz⟩:∃z,z=bs l:=⟨_,rfl⟩;rw[←hz]at hx hx2⊢;have hzs:5≤z.size:=by rw[hz,a0f,h];simp
 have hz4:¬z.size<4:=by omega
 have hz5:¬z.size<5:=by omega
 clear hz h;have e1:(⟨#[110,117,108,108]⟩:ByteArray)=bs [110,117,108,108]:=rfl;have e2:(⟨#[116,114,117,101]⟩:ByteArray)=bs [116,114,117,101]:=rfl;have e3:(⟨#[102,97,108,115,101]⟩:ByteArray)=bs [102,97,108,115,101]:=rfl;have hcat:bs [102,97,108,115]++bs [101]=bs [102,97,108,115,101]:=by rfl
 go_enter Tryz.func103,Tryz.ntmps103;go_wp2_with fail
 refine(a2v [102,97,108,115] (by decide) w).mono ?_;rintro e w1⟨rfl,hb1⟩;have hlo:([102,97,108,115]:By).map loB=[102,97,108,115]:=by decide
 rw[hlo];go_wp2_with fail
 refine(a0L [102,97,108,115] [110,117,108,108] false (by decide) w1).mono ?_;rintro e w2⟨rfl,hw2⟩;subst w2;go_wp2_with fail
 refine(a0L [102,97,108,115] [116,114,117,101] false (by decide) w1).mono ?_;rintro e w2⟨rfl,hw2⟩;subst w2;go_wp2_with fail
 refine(a2v [101] (by decide) w1).mono ?_;rintro e w3⟨rfl,hb3⟩;have hlo2:([101]:By).map loB=[101]:=by decide
 rw[hlo2];go_wp2_with fail
 refine(a0L [102,97,108,115,101] [102,97,108,115,101] true (by decide) w3).mono ?_;rintro e w2⟨rfl,hw2⟩;subst w2;have y30:∀(a b c:Value),([a,b,c]:List Value)[0]?=some a:=fun _ _ _=>rfl;have y31:∀(a b c:Value),([a,b,c]:List Value)[1]?=some b:=fun _ _ _=>rfl;have y32:∀(a b c:Value),([a,b,c]:List Value)[2]?=some c:=fun _ _ _=>rfl;go_wp2_with fail
 refine bodyPost_ret (v:=.tuple #[.iface 66 (.bool false),.string (bs [102,97,108,115,101]),.bool true]) (by simp[results,Tryz.results103,go_sem]<;>rfl) rfl ⟨rfl,hb1.trans (hb3.mono hb1.size)⟩
theorem b1l (a b:By):bs a++bs b=bs (a++b):=by
 apply ByteArray.ext;simp[bs]
def b6e (w w':World)(e:Ending):Prop:=(∃v s,e=.returned (.tuple #[v,s,.bool false]))∧Below w.heap.size w w'
theorem b3Q (c:UInt8)(l:By)(h1:loB c≠110)(h2:loB c≠116)(h3:loB c≠102)(hl:l.length≤1000000)(w:World):Calls Tryz.prog 103 #[.string (bs (c::l))] w fun e w'=>b6e w w' e:=by
 obtain⟨z,hz⟩:∃z,z=bs (c::l):=⟨_,rfl⟩;have hzs:z.size=l.length+1:=by rw[hz,a0f];simp
 rw[←hz]
 by_cases h4:z.size<4
 ·clear hzs hz
  go_enter Tryz.func103,Tryz.ntmps103;go_wp2_with fail
  have y30:∀(a b c:Value),([a,b,c]:List Value)[0]?=some a:=fun _ _ _=>rfl;have y31:∀(a b c:Value),([a,b,c]:List Value)[1]?=some b:=fun _ _ _=>rfl;have y32:∀(a b c:Value),([a,b,c]:List Value)[2]?=some c:=fun _ _ _=>rfl;go_wp2_with fail
  refine bodyPost_ret (v:=.tuple #[.nilIface,.string ⟨#[]⟩,.bool false]) (by simp[results,Tryz.results103,go_sem]<;>rfl) rfl ⟨⟨_,_,rfl⟩,Below.refl _ _⟩
 ·obtain⟨c2,c3,c4,r,rfl⟩:∃c2 c3 c4 r,l=c2::c3::c4::r:=by
   match l,hzs with
   | c2::c3::c4::r,_=>exact⟨_,_,_,_,rfl⟩
   | [],hzs=>simp at hzs;omega
   | [a],hzs=>simp at hzs;omega
   | [a,b],hzs=>simp at hzs;omega
  have hx:z.extract 0 4=bs [c,c2,c3,c4]:=by rw[hz];exact a6S rfl
  have hle4:4≤z.size:=by omega
  have e1:(⟨#[110,117,108,108]⟩:ByteArray)=bs [110,117,108,108]:=rfl;have e2:(⟨#[116,114,117,101]⟩:ByteArray)=bs [116,114,117,101]:=rfl;have e3:(⟨#[102,97,108,115,101]⟩:ByteArray)=bs [102,97,108,115,101]:=rfl
  have hp:∀(x:UInt8) (t q:By),x≠loB c→(x::t).isPrefixOf (loB c::q)=false:=by
   intro x t q hx;simp[List.isPrefixOf,hx]
  have Hp:=xhd hp
  by_cases h5:z.size<5
  ·clear hzs hz hp
   go_enter Tryz.func103,Tryz.ntmps103;go_wp2_with fail
   refine(a2v [c,c2,c3,c4] (by simp) w).mono ?_;rintro e w1⟨rfl,hb1⟩;simp only[List.map_cons,List.map_nil];go_wp2_with fail
   refine(a0L [loB c,loB c2,loB c3,loB c4] [110,117,108,108] false (Hp.out _ _ _ (Ne.symm h1)) w1).mono ?_;rintro e w2⟨rfl,hw2⟩;subst w2;go_wp2_with fail
   refine(a0L [loB c,loB c2,loB c3,loB c4] [116,114,117,101] false (Hp.out _ _ _ (Ne.symm h2)) w1).mono ?_;rintro e w2⟨rfl,hw2⟩;subst w2;have y30:∀(a b c:Value),([a,b,c]:List Value)[0]?=some a:=fun _ _ _=>rfl;have y31:∀(a b c:Value),([a,b,c]:List Value)[1]?=some b:=fun _ _ _=>rfl;have y32:∀(a b c:Value),([a,b,c]:List Value)[2]?=some c:=fun _ _ _=>rfl;go_wp2_with fail
   refine bodyPost_ret (v:=.tuple #[.nilIface,.string ⟨#[]⟩,.bool false]) (by simp[results,Tryz.results103,go_sem]<;>rfl) rfl ⟨⟨_,_,rfl⟩,hb1⟩
  ·obtain⟨c5,r,rfl⟩:∃c5 r',r=c5::r':=by
    cases r with
    | nil=>simp at hzs;omega
    | cons c5 r=>exact⟨_,_,rfl⟩
   have hx2:z.extract 4 5=bs [c5]:=by rw[hz,a1B];rfl
   have hle5:5≤z.size:=by omega
   have hcat:=b1l [loB c,loB c2,loB c3,loB c4] [loB c5];clear hzs hz hp;go_enter Tryz.func103,Tryz.ntmps103;go_wp2_with fail
   refine(a2v [c,c2,c3,c4] (by simp) w).mono ?_;rintro e w1⟨rfl,hb1⟩;simp only[List.map_cons,List.map_nil];go_wp2_with fail
   refine(a0L [loB c,loB c2,loB c3,loB c4] [110,117,108,108] false (Hp.out _ _ _ (Ne.symm h1)) w1).mono ?_;rintro e w2⟨rfl,hw2⟩;subst w2;go_wp2_with fail
   refine(a0L [loB c,loB c2,loB c3,loB c4] [116,114,117,101] false (Hp.out _ _ _ (Ne.symm h2)) w1).mono ?_;rintro e w2⟨rfl,hw2⟩;subst w2;go_wp2_with fail
   refine(a2v [c5] (by simp) w1).mono ?_;rintro e w3⟨rfl,hb3⟩;simp only[List.map_cons,List.map_nil];go_wp2_with fail
   refine(a0L ([loB c,loB c2,loB c3,loB c4]++[loB c5]) [102,97,108,115,101] false (Hp.out _ _ _ (Ne.symm h3)) w3).mono ?_;rintro e w2⟨rfl,hw2⟩;subst w2;have y30:∀(a b c:Value),([a,b,c]:List Value)[0]?=some a:=fun _ _ _=>rfl;have y31:∀(a b c:Value),([a,b,c]:List Value)[1]?=some b:=fun _ _ _=>rfl;have y32:∀(a b c:Value),([a,b,c]:List Value)[2]?=some c:=fun _ _ _=>rfl;go_wp2_with fail
   refine bodyPost_ret (v:=.tuple #[.nilIface,.string ⟨#[]⟩,.bool false]) (by simp[results,Tryz.results103,go_sem]<;>rfl) rfl ⟨⟨_,_,rfl⟩,hb1.trans (hb3.mono hb1.size)⟩
structure b0k (W0:World)(a b:Addr)(ca cb:Array Value):Prop extends a3M W0 where
 ab:b0j W0 a b ca cb
theorem a9a (pf:By→Nat)(W0 w:World)(ea eb:Addr)(ca cb:Array Value)(hI:b0k W0 ea eb ca cb)(hpf:PFC pf W0)(hE:Env W0 w)(b:Nat)(l:By)(hL:a0v w b l)(hl:l.length≤1000000)(ho:a0t l false=false)(hne:a0c l≠[])(hn0:(numF pf (a0c l)).2.2.2=0)(hn3:(numF pf (a0c l)).1=3)(hW0:W0.heap.size≤b) :
  Calls Tryz.prog 105 #[.pointer (some ⟨b,0,none⟩)] w fun e w'=>e=.returned (.tuple #[.iface 68 (.float .f64 (pf (a0c l))),.nilIface])∧a0v w' b (a0k l)∧w.grownBy w' (some b):=by
 obtain⟨hat,hok,_⟩:=a3D hn0 hn3;have hwl:(a0c l).length≤l.length:=(List.takeWhile_sublist _).length_le
 have hch:∀c∈a0c l,(c.toNat:Int)≠44:=by
  intro c hc e;have h1:=a5S (l:=a0c l) (by rw[hn0];decide)
  cases hw:a0c l with
  | nil=>rw[hw]at hc;simp at hc
  | cons d t =>
   rw[hw]at hc h1;simp only[a0i]at h1
   split at h1
   ·rename_i hd
    rcases List.mem_cons.1 hc with rfl|hc
    ·simp at hd;omega
    ·have:=h1 c hc;simp[a0F]at this;omega
   ·have:=h1 c hc;simp[a0F]at this;omega
 have hst:=fun w=>a8n pf l ho hne (by rw[hn0];decide) hl w;obtain⟨c0,f0⟩:=hL.cell;have hnob:∃c t,l=c::t:=by cases l with|nil=>simp[a0c]at hne|cons c t=>exact⟨c,t,rfl⟩
 have hnb:Calls Tryz.prog 67 #[.pointer (some ⟨b,0,none⟩)] w fun e w'=>e=.returned (.bool false)∧∃n,w'=w.drewN n:=by
  obtain⟨c,t,rfl⟩:=hnob;exact a4i w b c t hL
 obtain⟨te,pe,hsc⟩:=hI.init.syntaxErr;obtain⟨HL,HI,HE,Hpf,Hat,Hok,Hch⟩:=xh7 hL hI hE hpf hat hok hch;obtain⟨W,hW⟩:∃W,W=a0c l:=⟨_,rfl⟩;obtain⟨R,hR⟩:∃R,R=a0k l:=⟨_,rfl⟩;rw[←hW,←hR]at hst;rw[←hW]at Hat Hok Hch hwl;rw[←hW,←hR];clear hL hI hE hpf hat hok hch hn0 hn3 ho hne hW hR hnob hsc;go_enter Tryz.func105,Tryz.ntmps105;go_wp2_with fail
 refine hnb.mono ?_;rintro e w1⟨rfl,n1,hw1⟩;subst w1;go_wp2_with fail
 refine(hst _).mono ?_;rintro e w2⟨rfl,hb2⟩;have hg2:w.grownBy w2 none:=a0o (w:=w) ⟨hb2.os,hb2.tape,hb2.output,hb2.size,hb2.block⟩;generalize (if R=[] then -1 else (W.length:Int))=k1;clear hst hnb hb2;have HG2:=xhd hg2;clear hg2;go_wp2_with fail
 have hE2:=HE.out.grown0 HG2.out;have hab2:=HI.out.ab.env hE2;refine(Tryz.strconv_Atoi_syntax (bs W) (by rw[a0f];omega) (by rw[a1D];exact Hat.out) _ w2 hab2.syn (.inr ⟨_,_,rfl⟩)).mono ?_;rintro e w3⟨N,rfl,hN,hNc,hb3⟩;have hg3:=HG2.out.trans (a0o hb3);have hab3:=HI.out.ab.env (HE.out.grown0 hg3);have HG3:=xhd hg3;clear hb3 hg3 hab2 hE2;go_wp2_with fail
 refine(a8a w3 N _ _ ea eb ca cb hab3 hNc).mono ?_;rintro e w4⟨rfl,n4,hw4⟩;have hg4:=a0b HG3.out n4;rw[←hw4]at hg4;have hL4:=HL.out.keep hg4 (by simp);obtain⟨c4,f4⟩:=hL4.cell;obtain⟨HL4,HG4⟩:=xh2 hL4 hg4;clear hw4 hg4 hL4 hab3 hNc HG3;go_wp2_with fail
 have hLR:=HL4.out.set R;have hGR:=a0e (HG4.out.but (some b)) 0 (.string (bs R));obtain⟨W5,hW5⟩:∃W5,W5=w4.setCell ⟨b,0,none⟩ (.string (bs R)):=⟨_,rfl⟩;rw[←hW5]at hLR hGR⊢;refine(b7v pf W0 Hpf.out W Hok.out Hch.out (by omega) W5 (HE.out.grown hGR (fun k hk=>by injection hk with hk;omega))).mono ?_;rintro e w6⟨rfl,hg6⟩;have HL6:=xhd (hLR.keep hg6 (by simp));have HG6:=xhd (a0u hGR (hg6.but (some b)));clear hLR hGR hg6 hW5;go_wp2_with fail
 go_ret2;exact⟨rfl,HL6.out,HG6.out⟩
def a2D:By:=[47,60,40,91,93,62]
theorem b4Y {la:By}(ho:a0t la false=false){k:Nat}(hk:Lib.idxFunc (a2f a2D) true (bs la)=k):(la.take k=a0c la∧la.drop k=a0k la∧k≤la.length)∨(37∈la.take k∧k≤la.length):=by
 have hreg:∀x∈a2D,a0Y (x.toNat:Int)=false:=by decide
 have hs:a0c la++a0k la=la:=a0D la;have hw:∀c∈a0c la,(c.toNat:Int)<128∧a2f a2D c.toNat=false:=fun c hc=>a6f hreg ((a1g la ho).1 c hc).1 ((a1g la ho).1 c hc).2;have he:=a7w ho;generalize a0c la=W at *;generalize a0k la=R at *;subst hs
 cases R with
 | nil =>
  have:=a2U (a2f a2D) W [] hw (by simp);rw[this]at hk;simp at hk
 | cons d R =>
  have key:(a2f a2D d.toNat=true∧(d.toNat:Int)<128)→(W++d::R).take k=W∧(W++d::R).drop k=d::R∧k≤(W++d::R).length:=by
   intro hd;have:=a2U (a2f a2D) W (d::R) hw (by intro c hc;simp at hc;subst hc;exact⟨hd.2,hd.1⟩);rw[this,if_neg (by simp)]at hk;have hkl:k=W.length:=by omega
   subst hkl;exact⟨by simp,by simp,by simp⟩
  rcases he d (by simp) with h|h
  ·exact .inl (key ⟨(a2S (cs:=a2D) h).2,(a2S (cs:=a2D) h).1⟩)
  ·by_cases h37:d=37
   ·subst h37
    right
    have:=b8P (a2f a2D) (W++[37]) R (by
     intro c hc;rcases List.mem_append.1 hc with hc|hc
     ·exact hw c hc
     ·simp at hc;subst hc;decide)
    rw[show W++[37]++R=W++37::R by simp,hk]at this;rcases this with h1|⟨h1,h2⟩
    ·omega
    ·refine⟨?_,by omega⟩
     have hk2:W.length+1≤k:=by simp at h1;omega
     have:(W++37::R).take (W.length+1)=W++[37]:=by rw[show W++37::R=(W++[37])++R by simp];exact List.take_left' (by simp)
     have hsub:(W++37::R).take (W.length+1)=((W++37::R).take k).take (W.length+1):=by rw[List.take_take,Nat.min_eq_left hk2]
     have hm:(37:UInt8)∈(W++37::R).take (W.length+1):=by rw[this];simp
     rw[hsub]at hm;exact List.mem_of_mem_take hm
   ·left
    refine key ⟨a9H (cs:=a2D) ?_,?_⟩
    ·simp only[List.mem_cons,List.not_mem_nil,or_false]at h
     simp only[a2D,List.mem_cons,List.not_mem_nil,or_false];rcases h with h|h|h|h|h|h|h
     ·exact .inl h
     ·exact .inr (.inl h)
     ·exact .inr (.inr (.inr (.inr (.inr h))))
     ·exact .inr (.inr (.inl h))
     ·exact .inr (.inr (.inr (.inl h)))
     ·exact .inr (.inr (.inr (.inr (.inl h))))
     ·exact absurd h h37
    ·simp only[List.mem_cons,List.not_mem_nil,or_false,←UInt8.toNat_inj]at h
     simp at h;omega
theorem a6B {l la:By}(h:a0j false l false=(la,false))(ho:a0t la false=false):∀c∈la.head?,a0s (c.toNat:Int)=true:=by
 intro c hc;have hh:=a3E l false false c (by rw[h];exact hc)
 cases la with
 | nil=>simp at hc
 | cons d la =>
  simp at hc;subst hc
  by_cases hr:a0Y (d.toNat:Int)=true
  ·exact((a1g _ ho).1 d (by simp[a0c,hr])).2
  ·have hr':=a4S (n:=(d.toNat:Int)) (by simpa using hr)
   have hw:=hh.1;unfold a0h at hw;simp at hw;unfold a0s;simp;omega
theorem b0I {d:UInt8}{R:By}(hd:delZ (d.toNat:Int)=true):a0j false (d::R) false=(d::R,false)∧a0c (d::R)=[]:=by
 have h:(d.toNat:Int)=60∨(d.toNat:Int)=62∨(d.toNat:Int)=91∨(d.toNat:Int)=93∨(d.toNat:Int)=40∨(d.toNat:Int)=41∨(d.toNat:Int)=47:=by
  unfold delZ at hd;simp at hd;omega
 have hw:a0h (d.toNat:Int)=false:=by unfold a0h;simp;omega
 have h37:((d.toNat:Int)==37)=false:=by simp;omega
 have hr:a0Y (d.toNat:Int)=false:=by
  unfold a0Y a0U;simp;omega
 constructor
 ·simp[a0j,hw,h37]
 ·simp[a0c,hr]
theorem b7i (pf:By→Nat):(numF pf []).2.2.2=1:=by simp[numF,a0i,a0l]
structure RefS (pf:By→Nat)(n:Int)(R:By)(x:PV)(r la c:By):Prop where
 pass:a0j false R false=(la,false)
 odd:a0t la false=false
 alt : (x = .int n ∧ r = R ∧ ((numF pf (a0c la)).2.2.2 = 1 ∨ a0j false (a0k la) false = (c, false) ∧ a0t c false = false ∧ a0p (a0c c) (· == 82) = false))
   ∨ (∃g,x=.ref n g∧r=a0k c∧a0j false (a0k la) false=(c,false)∧a0c c=[82]∧Lib.atoiAll (a0c la)=.ok g∧n≠0∧0≤g∧g≤65535∧0≤n∧∃d t,a0k la=d::t∧a0h (d.toNat:Int)=true)
theorem a4U:∀(l:By) (b o:Bool),∃p,l=p++(a0j b l o).1:=by
 intro l
 induction l with
 | nil=>intro b o;exact⟨[],by cases b<;>rfl⟩
 | cons c l ih =>
  intro b o
  cases b
  all_goals
   simp only[a0j]
   split
  ·obtain⟨p,hp⟩:=ih false o;exact⟨c::p,by rw[List.cons_append,←hp]⟩
  ·split
   ·obtain⟨p,hp⟩:=ih true o;exact⟨c::p,by rw[List.cons_append,←hp]⟩
   ·exact⟨[],rfl⟩
  ·obtain⟨p,hp⟩:=ih false o;exact⟨c::p,by rw[List.cons_append,←hp]⟩
  ·obtain⟨p,hp⟩:=ih true (o||!a0s (c.toNat:Int));exact⟨c::p,by rw[List.cons_append,←hp]⟩
theorem RefS.of {pf:By→Nat}{n:Int}{t R:By}{x:PV}{r:By}(h:refF pf n t R false=some (x,r,false))(hn0:∀c∈t.head?,a0F (c.toNat:Int)=true→0≤n):∃la c,RefS pf n R x r la c:=by
 obtain⟨_,la,c,h1,h2,h3⟩:=a4r h;refine⟨la,c,h1,h2,?_⟩;rcases h3 with h3|⟨g,e1,e2,e3,e4,e5,e6,e7,e8,e9,e10,e11,e12⟩
 ·exact .inl h3
 ·right
  obtain⟨a1,a2,a3⟩:=a7T e5 e6
  have hn:0≤n:=by
   cases t with
   | nil=>simp[a0p]at e11
   | cons d t=>exact hn0 d (by simp) (by simpa[a0p] using e11)
  have hg : 0 ≤ g := by
   rw[e7]
   cases hw:a0c la with
   | nil=>rw[hw]at e10;simp[a0p]at e10
   | cons d t =>
    rw[hw]at a1 e10;simp only[a0p]at e10;have hd:=(a3l d).1 e10;simp only[Lib.atoiAll]at a1;rw[if_neg (by omega)]at a1;have h45:¬d.toNat=45:=by omega
    cases hp:Lib.parseMag (d::t) with
    | range=>rw[hp]at a1;simp at a1
    | ok u =>
     rw[hp]at a1;simp only[h45]at a1
     split at a1
     ·simp at a1
     ·split at a1
      ·simp at a1
      ·simp at a1;omega
    | _=>rw[hp]at a1;simp at a1
  refine⟨g,e1,e2,e3,e4,by rw[e7];exact a1,e8,hg,e9,hn,?_⟩;have hlr:a0c la++a0k la=la:=a0D la
  cases hr:a0k la with
  | nil=>rw[hr]at e3;simp[a0j]at e3;rw[e3]at e4;simp[a0c]at e4
  | cons d q =>
   refine⟨d,q,rfl,?_⟩;rcases a7w h2 d (by rw[hr];simp) with hw|hm
   ·exact hw
   ·exfalso
    have hreg:=b0X la d (by rw[hr];simp)
    by_cases h37:d=37
    ·subst h37
     have hcon:a1W (R.take (R.length-(a0k c).length))=true:=by
      obtain⟨p,hp⟩:=a4U R false false;rw[h1]at hp;obtain⟨p2,hp2⟩:=a4U (37::q) false false;rw[←hr,e3,hr]at hp2;simp only at hp hp2;have hc2:a0c c++a0k c=c:=a0D c
      have hp2n:∃y p3,p2=y::p3:=by
       cases p2 with
       | nil =>
        simp at hp2;rw[←hp2]at e4;simp[a0c,a0Y,a0h,a0U]at e4
       | cons y p3=>exact⟨y,p3,rfl⟩
      obtain⟨y,p3,rfl⟩:=hp2n;have hy:y=37:=by simp at hp2;exact hp2.1.symm
      subst hy
      have hR:R=(p++a0c la++(37::p3)++a0c c)++a0k c:=by
       rw[hp]
       conv=>lhs;rw[←hlr,hr,hp2,←hc2]
       simp
      rw[show R.take (R.length-(a0k c).length)=p++a0c la++(37::p3)++a0c c by
       conv=>lhs;arg 2;rw[hR]
       exact List.take_left' (by have:=congrArg List.length hR;simp at this⊢;omega)]
      simp[a1W]
     rw[hcon]at e12;exact absurd e12 (by decide)
    ·have hdl:a0h (d.toNat:Int)=false∧(d.toNat:Int)≠37:=by
      constructor
      ·simp only[List.mem_cons,List.not_mem_nil,or_false,←UInt8.toNat_inj]at hm
       unfold a0h;simp at hm⊢;omega
      ·intro e;exact h37 (by apply UInt8.toNat_inj.1;simp;omega)
     rw[hr]at e3;have h37':((d.toNat:Int)==37)=false:=by simpa using hdl.2
     simp only[a0j,hdl.1,h37',Bool.false_eq_true,if_false]at e3;simp at e3;rw[←e3]at e4;simp[a0c,hreg]at e4
def b6j (w w':World)(b:Nat)(n:Int)(x:PV)(r:By)(e:Ending):Prop :=
 ((x=.int n∧e=intI n)∨∃g,x=.ref n g∧e=refI n g∧0<n∧0≤g∧g≤65535)∧a0v w' b r∧w.grownBy w' (some b)
theorem RefS.isInt {pf:By→Nat}{n:Int}{R:By}{x:PV}{r la c:By}(h:RefS pf n R x r la c)(hw:a0c la=[]):x=.int n∧r=R:=by
 rcases h.alt with⟨h1,h2,_⟩|⟨g,h1,h2,h3,h4,h5,_⟩
 ·exact⟨h1,h2⟩
 ·rw[hw]at h5;simp[Lib.atoiAll]at h5
theorem a9k {n:Int}(h:a0h n=true):delZ n=false:=by
 have:=a2C h;unfold delZ;simp;omega
theorem b1J {c:By}(h:a0c c=[82]):c.head?=some 82∧a0k c=c.tail:=by
 have hs:=a0D c;rw[h]at hs;have h2:(82::a0k c).head?=c.head?:=by rw[show (82:UInt8)::a0k c=[82]++a0k c from rfl,hs]
 have h3:(82::a0k c).tail=c.tail:=by rw[show (82:UInt8)::a0k c=[82]++a0k c from rfl,hs]
 exact⟨by rw[←h2];rfl,by rw[←h3];rfl⟩
theorem RefS.pos {pf:By→Nat}{n:Int}{R:By}{x:PV}{r la c:By}(h:RefS pf n R x r la c)(hx:¬(x=.int n∧r=R)) :
  ∃g d t,x=.ref n g∧r=a0k c∧a0j false (a0k la) false=(c,false)∧a0c c=[82]∧Lib.atoiAll (a0c la)=.ok g∧0<n∧0≤g∧g≤65535∧a0k la=d::t∧delZ (d.toNat:Int)=false∧Lib.idxFunc (a2f a2D) true (bs la)=(a0c la).length∧0<(a0c la).length:=by
 rcases h.alt with⟨h1,h2,_⟩|⟨g,h1,h2,h3,h4,h5,h6,h7,h8,h9,d,t,h10,h11⟩
 ·exact absurd ⟨h1,h2⟩ hx
 ·have hne:a0c la≠[]:=by intro e;rw[e]at h5;simp[Lib.atoiAll]at h5
  refine⟨g,d,t,h1,h2,h3,h4,h5,by omega,h7,h8,h10,a9k h11,?_,List.length_pos_iff.2 hne⟩
  have:=a2U (a2f a2D) (a0c la) (a0k la) (fun c hc=>a6f (by decide) ((a1g la h.odd).1 c hc).1 ((a1g la h.odd).1 c hc).2) (by
   rw[h10];intro c hc;simp at hc;subst hc;exact⟨(a2S (cs:=a2D) h11).1,(a2S (cs:=a2D) h11).2⟩)
  rw[a0D,if_neg (by rw[h10];simp)]at this;exact this
theorem RefS.noPos {pf:By→Nat}{n:Int}{R:By}{x:PV}{r la c:By}(h:RefS pf n R x r la c)(hk:Lib.idxFunc (a2f a2D) true (bs la)≤0∨∃d t k,Lib.idxFunc (a2f a2D) true (bs la)=(k:Nat)∧la.drop k=d::t∧delZ (d.toNat:Int)=true):x=.int n∧r=R:=by
 by_cases hx:x=.int n∧r=R
 ·exact hx
 ·obtain⟨g,d,t,_,_,_,_,_,_,_,_,h10,h11,h12,h13⟩:=h.pos hx
  exfalso;rcases hk with hk|⟨d2,t2,k,hk,hd,hdl⟩
  ·omega
  ·have hkl:k=(a0c la).length:=by omega
   subst hkl
   have:la.drop (a0c la).length=a0k la:=by
    conv=>lhs;arg 2;rw[←a0D la]
    simp
   rw[this,h10]at hd;injection hd with hd _;rw[hd]at h11;rw[h11]at hdl;exact absurd hdl (by decide)
theorem b0x (pf:By→Nat)(W0 w:World)(hI:a3M W0)(hE:Env W0 w)(b:Nat)(l:By)(hL:a0v w b l)(hl:l.length≤1000000)(ho:a0t l false=false)(hne:a0c l≠[])(n:Int)(hn1:(numF pf (a0c l)).2.2.2≠1)(hat:Lib.atoiAll (a0c l)=.ok n)(x:PV)(r la c:By)(hS:RefS pf n (a0k l) x r la c)(hW0:W0.heap.size≤b) :
  Calls Tryz.prog 105 #[.pointer (some ⟨b,0,none⟩)] w fun e w'=>b6j w w' b n x r e:=by
 have hwl:(a0c l).length≤l.length:=(List.takeWhile_sublist _).length_le;have hrl:(a0k l).length≤l.length:=(List.dropWhile_sublist _).length_le;have hst:=fun w=>a8n pf l ho hne hn1 hl w;obtain⟨c0,f0⟩:=hL.cell;have hnob:∃c t,l=c::t:=by cases l with|nil=>simp[a0c]at hne|cons c t=>exact⟨c,t,rfl⟩
 have hnb:Calls Tryz.prog 67 #[.pointer (some ⟨b,0,none⟩)] w fun e w'=>e=.returned (.bool false)∧∃n,w'=w.drewN n:=by
  obtain⟨c,t,rfl⟩:=hnob;exact a4i w b c t hL
 have hWpos:0<(a0c l).length:=List.length_pos_iff.2 hne;obtain⟨z,hz⟩:∃z,z=bs l:=⟨_,rfl⟩;have hzs:z.size=l.length:=by rw[hz,a0f]
 have hzx:z.extract (a0c l).length z.size=bs (a0k l):=by
  rw[hzs,hz,a2u];congr 1
  conv=>lhs;arg 2;rw[←a0D l]
  simp
 have hzg:∀(d:UInt8) (t:By),a0k l=d::t→∃hk:(a0c l).length<z.size,z[(a0c l).length]'hk=d:=by
  intro d t ht;obtain⟨hk,hget⟩:=a3k (l:=l) (pre:=a0c l) (c:=d) (post:=t) (by rw[←ht,a0D]);exact⟨by rw[hz];exact hk,by simp only[hz];exact hget⟩
 rw[←hz]at c0;have hst':=hst;simp only[←hz]at hst';obtain⟨HL,HI,HE,Hat,HS,Hzg⟩:=xh6 hL hI hE hat hS hzg;obtain⟨W,hW⟩:∃W,W=a0c l:=⟨_,rfl⟩;obtain⟨R,hR⟩:∃R,R=a0k l:=⟨_,rfl⟩;rw[←hW,←hR]at hst' hzx;rw[←hW]at Hat hwl hWpos Hzg;rw[←hR]at HS Hzg hrl;clear hL hI hE hat hn1 ho hne hW hR hnob hz hS hst hzg;have hWl:W.length≤1000000:=by omega
 have hWz:W.length≤z.size:=by omega
 obtain⟨m,hm⟩:∃m,m=W.length:=⟨_,rfl⟩;rw[←hm]at hst' hzx hWl hWz hWpos Hzg;have hmW:m≤1000000:=hWl;clear hzs hwl;have Hm:=xhd hm;clear hm;go_enter Tryz.func105,Tryz.ntmps105;go_wp2_with fail
 refine hnb.mono ?_;rintro e w1⟨rfl,n1,hw1⟩;subst w1;go_wp2_with fail
 refine(hst' _).mono ?_;rintro e w2⟨rfl,hb2⟩;have hg2:w.grownBy w2 none:=a0o (w:=w) ⟨hb2.os,hb2.tape,hb2.output,hb2.size,hb2.block⟩;have HG2:=xhd hg2;clear hst' hnb hb2 hg2;have hatoi:=fun (w3:World) (h:Env W0 w3)=>Tryz.strconv_Atoi_ok (bs W) (by rw[a0f];have:=Hm.out;omega) n (by rw[a1D];exact Hat.out) w3
 by_cases hRn:R=[]
 ·subst hRn
  simp only[if_true];obtain⟨hx,hr⟩:=HS.out.isInt (by have:=HS.out.pass;simp[a0j]at this;simp[this,a0c]);obtain⟨Hx,Hr⟩:=xh2 hx hr;clear hx hr;go_wp2_with fail
  refine(hatoi _ (HE.out.grown0 HG2.out)).mono ?_;rintro e w3⟨rfl,hw3⟩;have hg3:w2.grownBy w3 none:=by rcases hw3 with rfl|⟨t,rfl⟩;exact xgr _ _;exact a2T _ _ _
  have hG3:=HG2.out.trans hg3;have hL3:=HL.out.keep hG3 (by simp);obtain⟨c3,f3⟩:=hL3.cell;have HL3:=xhd hL3;have HG3:=xhd (hG3.but (some b));clear hg3 hw3 hG3 hL3 hatoi;go_wp2_with fail
  go_ret2;exact⟨.inl ⟨Hx.out,rfl⟩,by rw[Hr.out];exact HL3.out.set _,a0e HG3.out _ _⟩
 ·rw[if_neg hRn]
  obtain⟨d,R',hRd⟩:∃d R',R=d::R':=by cases R with|nil=>exact absurd rfl hRn|cons d R'=>exact⟨d,R',rfl⟩
  obtain⟨hk,hget⟩:=Hzg.out d R' hRd;have HRd:=xhd hRd;clear hRd;go_wp2_with fail
  refine(hatoi _ (HE.out.grown0 HG2.out)).mono ?_;rintro e w3⟨rfl,hw3⟩;have hg3:w2.grownBy w3 none:=by rcases hw3 with rfl|⟨t,rfl⟩;exact xgr _ _;exact a2T _ _ _
  have hG3:=HG2.out.trans hg3;have hL3:=HL.out.keep hG3 (by simp);obtain⟨c3,f3⟩:=hL3.cell;obtain⟨HL3,HG3⟩:=xh2 hL3 hG3;clear hg3 hw3 hG3 hL3 hatoi;go_wp2_with fail
  refine(b1u (d.toNat:Int) _).mono ?_;rintro e w4⟨rfl,hw4⟩;subst w4;rcases xbt (delZ (d.toNat:Int)) with hd|hd
  ·rw[hd]
   obtain⟨hp1,hp2⟩:=b0I (R:=R') hd
   obtain⟨hx,hr⟩:=HS.out.isInt (by
    have:=HS.out.pass;rw[HRd.out,hp1]at this;simp at this
    rw[←this];exact hp2)
   obtain⟨Hx,Hr⟩:=xh2 hx hr;clear hx hr hp1 hp2;go_wp2_with fail
   go_ret2;exact⟨.inl ⟨Hx.out,rfl⟩,by rw[Hr.out];exact HL3.out.set _,a0e (HG3.out.but (some b)) _ _⟩
  ·rw[hd]
   go_wp2_with fail
   refine(a1H R la _ HS.out.pass (a6B HS.out.pass HS.out.odd)).mono ?_;rintro e w4⟨⟨q,hq,rfl⟩,hb4⟩;have hG4:=HG3.out.trans (a0o hb4);have hL4:=HL3.out.keep (a0o hb4) (by simp);obtain⟨c4,f4⟩:=hL4.cell;obtain⟨HL4,HG4,Hq⟩:=xh3 hL4 hG4 hq;clear hb4 hG4 hL4 hq c3 f3 HL3 HG3
   cases q with
   | nil =>
    have hla:la=[]:=by rcases Hq.out with h|⟨_,h⟩;exact h.symm;simp at h
    obtain⟨hx,hr⟩:=HS.out.isInt (by rw[hla];rfl);obtain⟨Hx,Hr⟩:=xh2 hx hr;have hz0:(((bs ([]:By)).size:Int)==0)=true:=by rw[a0f];rfl
    clear hx hr hla;go_wp2_with fail
    go_ret2;exact⟨.inl ⟨Hx.out,rfl⟩,by rw[Hr.out];exact HL4.out.set _,a0e (HG4.out.but (some b)) _ _⟩
   | cons y q =>
    obtain⟨p,hp⟩:∃p,p=y::q:=⟨_,rfl⟩;rw[←hp]at Hq⊢
    have hql:p.length≤1000001:=by
     rcases Hq.out with h|⟨_,h⟩
     ·rw[h]
      have:=a0K false R false;rw[HS.out.pass]at this;simp only at this;omega
     ·rw[h];simp
    obtain⟨z2,hz2⟩:∃z2,z2=bs p:=⟨_,rfl⟩;have hz0:((z2.size:Int)==0)=false:=by rw[hz2,a0f,hp];simp only[List.length_cons,beq_eq_false_iff_ne];omega
    have hpos:=a8U (bs p) a2D (by decide) (by decide);obtain⟨k2,hk2⟩:∃k2,k2=Lib.idxFunc (a2f a2D) true (bs p):=⟨_,rfl⟩;rw[←hk2]at hpos;have hrg:=Lib.idxFunc_range (a2f a2D) true (bs p);rw[←hk2]at hrg;rw[←hz2]at hrg;have hzs2:z2.size=p.length:=by rw[hz2,a0f]
    have ecs:(⟨#[47,60,40,91,93,62]⟩:ByteArray)=bs a2D:=rfl;have hposz:=hpos;simp only[←hz2]at hposz;rw[←hz2];obtain⟨Hz2,Hk2,Hzs2,Hp⟩:=xh4 hz2 hk2 hzs2 hp;clear hpos hz2 hk2 hzs2 hp;go_wp2_with fail
    refine(hposz _).mono ?_;rintro e w5⟨⟨v5,rfl⟩,hb5⟩;have hG5:=HG4.out.trans (a0o hb5);have hL5:=HL4.out.keep (a0o hb5) (by simp);obtain⟨c5,f5⟩:=hL5.cell;obtain⟨HL5,HG5⟩:=xh2 hL5 hG5;clear hb5 hG5 hL5 c4 f4 HL4 HG4 hposz ecs
    have hpla:p=[37]→k2=-1:=by
     intro e;rw[Hk2.out,e];have:=a2U (a2f a2D) [37] [] (by decide) (by simp);simpa using this
    have Hpla:=xhd hpla;clear hpla
    by_cases hk0:k2≤0
    ·obtain⟨hx,hr⟩:x=.int n∧r=R:=by
      rcases Hq.out with h|⟨h,_⟩
      ·exact HS.out.noPos (.inl (by rw[←h,←Hk2.out];exact hk0))
      ·exact HS.out.isInt (by rw[h];rfl)
     obtain⟨Hx,Hr⟩:=xh2 hx hr;clear hx hr;go_wp2_with fail
     go_ret2;exact⟨.inl ⟨Hx.out,rfl⟩,by rw[Hr.out];exact HL5.out.set _,a0e (HG5.out.but (some b)) _ _⟩
    ·have hpq:p=la:=by
      rcases Hq.out with h|⟨_,h⟩
      ·exact h
      ·have:=Hpla.out h;omega
     obtain⟨k,hk⟩:∃k:Nat,k2=k:=⟨k2.toNat,by omega⟩;subst hk;have hklt:k<z2.size:=by omega
     have hkp:0<k:=by omega
     have hkl:k<p.length:=by rw[←Hzs2.out];exact hklt
     obtain⟨f,t,hft⟩:∃f t,p.drop k=f::t:=⟨p[k],p.drop (k+1),List.drop_eq_getElem_cons hkl⟩;have hsp:p=p.take k++f::t:=by rw[←hft,List.take_append_drop]
     obtain⟨hkk,hgetk⟩:=a3k (l:=p) (pre:=p.take k) (c:=f) (post:=t) hsp;have htl:(p.take k).length=k:=by rw[List.length_take];omega
     have hget5:z2[k]'hklt=f:=by
      have:=hgetk;simp only[htl]at this;simp only[Hz2.out];exact this
     have hcut:z2.extract 0 k=bs (p.take k):=by rw[Hz2.out,a3U]
     obtain⟨Hft,Hpq⟩:=xh2 hft hpq;have hk2l:k≤1000001:=by omega
     clear hsp hkk hgetk htl hft hpq hrg;go_wp2_with fail
     refine(b1u (f.toNat:Int) _).mono ?_;rintro e w6⟨rfl,hw6⟩;subst w6;rcases xbt (delZ (f.toNat:Int)) with hfd|hfd
     ·rw[hfd]
      obtain⟨hx,hr⟩:x=.int n∧r=R:=HS.out.noPos (.inr ⟨f,t,k,by rw[←Hpq.out,←Hk2.out],by rw[←Hpq.out,Hft.out],hfd⟩);obtain⟨Hx,Hr⟩:=xh2 hx hr;clear hx hr;go_wp2_with fail
      go_ret2;exact⟨.inl ⟨Hx.out,rfl⟩,by rw[Hr.out];exact HL5.out.set _,a0e (HG5.out.but (some b)) _ _⟩
     ·rw[hfd]
      go_wp2_with fail
      rw[Hz2.out];have hE5:=HE.out.grown0 HG5.out
      have hpl:p.length≤1000000:=by
       have h1:=a0K false R false;rw[HS.out.pass]at h1;simp only at h1;rw[Hpq.out];omega
      have hTl:(p.take k).length≤1000000:=by rw[List.length_take];omega
      have hkl':k≤p.length:=Nat.le_of_lt hkl;have hpq:=Hpq.out;subst hpq
      by_cases hSok:∃g,Lib.atoiAll (p.take k)=.ok g
      ·obtain⟨g,hg⟩:=hSok
       have hsc:=b4Y HS.out.odd (k:=k) (by exact Hk2.out.symm);rcases hsc with⟨hs1,hs2,_⟩|⟨h37,_⟩
       ·have hpc:a0j false (p.drop k) false=(c,false)∧∀x∈c.head?,a0s (x.toNat:Int)=true:=by
         rcases HS.out.alt with⟨_,_,h|⟨h,h',_⟩⟩|⟨g',_,_,h,h',_⟩
         ·exact absurd h (a6o (by rw[hs1]at hg;exact hg))
         ·rw[hs2];exact⟨h,a6B h h'⟩
         ·rw[hs2];exact⟨h,by rw[(b1J h').1];intro x hx;simp at hx;subst hx;decide⟩
        refine(b8Q W0 w5 HI.out hE5 b (p.take k) p R l c n g k HL5.out hg hTl hpl hkl' hpc.1 hpc.2).mono ?_;intro e w6 hi;obtain⟨hi1,hg6⟩:=hi;have hG6:=HG5.out.but (some b) |>.trans hg6;rw[hs1]at hg;rcases HS.out.alt with⟨hx,hr,h⟩|⟨g',hx,hr,h1,h2,h3,h4,h5,h6,h7,h8⟩
        ·have h82:c.head?≠some 82:=by
          rcases h with h|⟨_,_,h⟩
          ·exact absurd h (a6o hg)
          ·intro e
           cases c with
           | nil=>simp at e
           | cons y c=>simp at e;subst e;simp[a0c,a0Y,a0h,a0U,a0p]at h
         rcases hi1 with⟨h,_⟩|⟨_,he,hL6⟩
         ·exact absurd h h82
         ·unfold intI at he
          subst he;have Hx:=xhd (And.intro hx hr);obtain⟨HL6,HG6⟩:=xh2 hL6 hG6;clear hL6 hG6 hg6 hx hr h;go_wp2_with fail
          go_ret2;exact⟨.inl ⟨Hx.out.1,rfl⟩,by rw[Hx.out.2];exact HL6.out,HG6.out⟩
        ·obtain rfl:g'=g:=by rw[h3]at hg;injection hg
         have h82:=b1J h2;rcases hi1 with⟨_,he,hL6⟩|⟨h,_⟩
         ·unfold refI at he
          subst he;have Hx:=xhd (And.intro hx (And.intro hr (And.intro (show 0<n by omega) (And.intro h5 h6))));obtain⟨HL6,HG6,H82⟩:=xh3 hL6 hG6 h82;clear hL6 hG6 hg6 hx hr h1 h2 h3 h4 h5 h6 h7 h8 h82;go_wp2_with fail
          go_ret2;exact⟨.inr ⟨g',Hx.out.1,rfl,Hx.out.2.2.1,Hx.out.2.2.2.1,Hx.out.2.2.2.2⟩,by rw[Hx.out.2.1,H82.out.2];exact HL6.out,HG6.out⟩
         ·exact absurd h82.1 h
       ·exact absurd (b0n hg 37 h37) (by decide)
      ·have hSn:∀u,Lib.atoiAll (p.take k)≠.ok u:=fun u hu=>hSok ⟨u,hu⟩
       refine(b6R W0 w5 HI.out hE5 b (p.take k) p R l n k HL5.out hSn hTl).mono ?_;rintro e w6⟨he,hL6,hg6⟩;unfold intI at he;subst he
       obtain⟨hx,hr⟩:x=.int n∧r=R:=by
        by_cases hx:x=.int n∧r=R
        ·exact hx
        ·obtain⟨g,d,t,_,_,_,_,h5,_,_,_,h10,h11,h12,h13⟩:=HS.out.pos hx
         have hkl2:k=(a0c p).length:=by have:=Hk2.out;omega
         have htk:p.take k=a0c p:=by
          rw[hkl2]
          conv=>lhs;arg 2;rw[←a0D p]
          simp
         rw[htk]at hSn;exact absurd h5 (hSn g)
       have Hx:=xhd (And.intro hx hr);have HL6:=xhd hL6;have HG6:=xhd ((HG5.out.but (some b)).trans hg6);clear hL6 hg6 hx hr hSn;go_wp2_with fail
       go_ret2;exact⟨.inl ⟨Hx.out.1,rfl⟩,by rw[Hx.out.2];exact HL6.out,HG6.out⟩
end Go.Proofs.YtfkecmlmnhbmoaaGreatDoor
