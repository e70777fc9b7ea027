/- Parts F21 K6 K7 J16 D5. -/
import Derived.Test.YtfkecmlmnhbmoaaGreatDoorW38
import Derived.Test.YtfkecmlmnhbmoaaGreatDoorW39
set_option linter.unusedVariables false
set_option linter.unusedSimpArgs false
set_option maxRecDepth 100000
set_option maxHeartbeats 40000000
namespace Go.Proofs.YtfkecmlmnhbmoaaGreatDoor
open Go Go.RowKit
theorem numOk_len {l:By}(h:numOk l):l.length≤62:=by
 obtain⟨pre,c,l1,d,a,rfl,hp,_,hsc,h1,h2,h3⟩:=numOk_parts h;have:=scan_mono _ _ _ _ _ _ _ hsc;rw[List.length_append];rcases hp with rfl|rfl|rfl<;>simp at this⊢<;>omega
def ZeroAt (l:By)(x:Nat):Prop:=(rfF (numStrip l) 0 0 0 false).1=0→∀b,headIs l (· == 45)=b→x=if b then 9223372036854775808 else 0
theorem a64_ex (W0:World)(hF:FInit3 W0)(l:By)(hok:numOk l):∃x,(nnF x∧ZeroAt l x)∧A64 W0 l ⟨l.toArray⟩ x:=by
 have hl:=numOk_len hok;have hs2:(⟨l.toArray⟩:ByteArray).size≤1000:=by show l.toArray.size≤1000;simp;omega
 by_cases hM:(rfF (numStrip l) 0 0 0 false).1=0
 ·obtain⟨x,⟨h1,h2⟩,h3⟩:=a64_zero W0 hF l hok _ rfl hs2 hM
  exact⟨x,⟨h1,fun _=>h2⟩,h3⟩
 ·cases htr:(rfF (numStrip l) 0 0 0 false).2.2.2
  ·obtain⟨x,h1,h3⟩:=a64_short W0 hF l hok _ rfl hs2 hM htr
   exact⟨x,⟨h1,fun h=>absurd h hM⟩,h3⟩
  ·obtain⟨x,h1,h3⟩:=a64_long W0 hF l hok _ rfl hs2 hM htr
   exact⟨x,⟨h1,fun h=>absurd h hM⟩,h3⟩
theorem pf_ex (W0:World)(hF:FInit3 W0)(l:By)(hok:numOk l):∃x:Nat,(nnF x∧ZeroAt l x)∧∀w:World,Env W0 w→Calls Tryz.prog 57 #[.string ⟨l.toArray⟩,.int .i64 64] w fun e w'=>e=.returned (.tuple #[.float .f64 x,.nilIface])∧w.grownBy w' none:=by
 obtain⟨x,hxn,hx⟩:=a64_ex W0 hF l hok;have HXn:=xhd hxn;clear hxn;generalize (⟨l.toArray⟩:ByteArray)=s at hx⊢;have hss:((s.size:Int) != (s.size:Int))=false:=by simp
 have H64:=xhd hx;clear hx;have y30:∀(a b c:Value),([a,b,c]:List Value)[0]?=some a:=fun _ _ _=>rfl;have y31:∀(a b c:Value),([a,b,c]:List Value)[1]?=some b:=fun _ _ _=>rfl;have y32:∀(a b c:Value),([a,b,c]:List Value)[2]?=some c:=fun _ _ _=>rfl;refine⟨x,HXn.out,fun w hE=>?_⟩;clear HXn
 have h85:Calls Tryz.prog 85 #[.string s,.int .i64 64] w fun e w'=>e=.returned (.tuple #[.float .f64 x,.int .i64 s.size,.nilIface])∧w.grownBy w' none:=by
  go_enter Tryz.func85,Tryz.ntmps85;go_wp2_with fail
  refine(H64.out w hE).mono ?_;rintro e w1⟨rfl,hg⟩;have Hg:=xhd hg;clear hg
  go_wp2_with fail
  go_ret3;exact⟨rfl,Hg.out⟩
 have H85:=xhd h85;clear h85
 have h72:Calls Tryz.prog 72 #[.string s,.int .i64 64] w fun e w'=>e=.returned (.tuple #[.float .f64 x,.nilIface])∧w.grownBy w' none:=by
  go_enter Tryz.func72,Tryz.ntmps72;go_wp2_with fail
  refine H85.out.mono ?_;rintro e w1⟨rfl,hg⟩;have Hg:=xhd hg;clear hg
  go_wp2_with fail
  go_ret2;exact⟨rfl,Hg.out⟩
 have H72:=xhd h72;clear h72;go_enter Tryz.func57,Tryz.ntmps57;go_wp2_with fail
 refine H72.out.mono ?_;rintro e w1⟨rfl,hg⟩;have Hg:=xhd hg;clear hg
 go_wp2_with fail
 go_ret2;exact⟨rfl,Hg.out⟩
open Classical in
theorem PFC_ex2 (W0:World)(hF:FInit3 W0):∃pf,PFC pf W0∧∀l,numOk l→nnF (pf l)∧ZeroAt l (pf l):=by
 refine⟨fun l=>if h:numOk l then Classical.choose (pf_ex W0 hF l h) else 0,fun l w hok hE=>?_,fun l hok=>?_⟩
 rotate_left
 ·simp only[dif_pos hok]
  exact(Classical.choose_spec (pf_ex W0 hF l hok)).1
 have h:=(Classical.choose_spec (pf_ex W0 hF l hok)).2 w hE;simp only[dif_pos hok];exact h
theorem PFC_ex (W0:World)(hF:FInit3 W0):∃pf,PFC pf W0∧∀l,numOk l→nnF (pf l):=by
 obtain⟨pf,h1,h2⟩:=PFC_ex2 W0 hF;exact⟨pf,h1,fun l hl=>(h2 l hl).1⟩
open Go.Maps
theorem fo_ret {w3:World}{B:Nat}{a0 a1 a2 a3 a4 a5 a6 v0 v1 v2 v3 v4 v5 v6 u3:Value}{tmps:Array Value}{R:Ending→World→Prop}(h2:tmps.getD 2 undef=.pointer (some ⟨B,0,none⟩))(h3:tmps.getD 3 undef=u3)
  (hz:w3.heap[B]?=some (.cells #[a0,a1,a2,a3,a4,a5,a6] 30 (0,0)))
  (hR:∀w',(∀w0 r,World.grownBy w0 w3 r→w0.heap.size≤B→World.grownBy w0 w' r)→R (.returned (.tuple #[.agg #[v0,v1,v2,v3,v4,v5,v6],u3])) w'):bodyPost Tryz.prog Tryz.f7 R Exit.ret { tmps:=tmps,defers:=[] } (set7 w3 B v0 v1 v2 v3 v4 v5 v6):=by
 have hz4:=set7_at hz v0 v1 v2 v3 v4 v5 v6;have hR4:=hR _ (fun w0 r hg hB=>set7_gr hg hB v0 v1 v2 v3 v4 v5 v6);generalize set7 w3 B v0 v1 v2 v3 v4 v5 v6=w4 at *;obtain⟨y0,y1,y2,y3,y4,y5,y6,yf⟩:=cells7 hz4;simp only[Array.getD_eq_getD_getElem?]at h2 h3;exact bodyPost_ret (v:=.tuple #[.agg #[v0,v1,v2,v3,v4,v5,v6],u3]) (by simp[results,Tryz.results7,go_sem,h2,h3,y0,y1,y2,y3,y4,y5,y6]) rfl hR4
end Go.Proofs.YtfkecmlmnhbmoaaGreatDoor
namespace Go.Proofs.YtfkecmlmnhbmoaaGreatDoor
open Go Go.RowKit Go.Lib
theorem ftxt_len (neg:Bool)(L:By){dp:Int}(h:dp≤14):(ftxt neg L dp).length≤34:=by
 have h1:=ipT_len (L:=L) h;have h2:=frT_len L dp;unfold ftxt
 cases neg<;>simp<;>omega
def FtX (x:Nat)(t:By):Prop:=numOk t∧t.length≤34∧(x=0→t=ftxt false [] 0)∧(x=9223372036854775808→t=ftxt true [] 0)
theorem FtX.of {x:Nat}{L:By}{dp:Int}(neg:Bool)(hL:isDs L)(hdp:dp≤14)(h0:x≠0)(h1:x≠9223372036854775808):FtX x (ftxt neg L dp) :=
 ⟨ftxt_ok hL hdp neg,ftxt_len neg L hdp,fun e=>absurd e h0,fun e=>absurd e h1⟩
theorem ft_ex (W0:World)(hF:FInit2 W0)(hT:TabIs Tryz.prog W0 "internal/strconv.uint64pow10" .u64 pow10Tab)(x:Nat)(hx:x<18446744073709551616)(hb:x%9223372036854775808<4816244402031689728):∃t,FtX x t∧Ft64 W0 x t:=by
 obtain⟨sg,hsg⟩:∃s,s=x/9223372036854775808:=⟨_,rfl⟩;obtain⟨ef,hef⟩:∃s,s=x/4503599627370496%2048:=⟨_,rfl⟩;obtain⟨fr,hfr⟩:∃s,s=x%4503599627370496:=⟨_,rfl⟩;have hxe:x=sg*9223372036854775808+ef*4503599627370496+fr:=by omega
 have hs:sg≤1:=by omega
 have hf:fr<4503599627370496:=by omega
 have hbb:ef*4503599627370496+fr<4816244402031689728:=by omega
 clear hsg hef hfr hb;have hnil:isDs ([]:By):=fun c hc=>by cases hc
 by_cases h0:ef=0
 ·subst h0
  by_cases hf0:fr=0
  ·subst hf0
   have h2:sg=0∨sg=1:=by omega
   rcases h2 with rfl|rfl
   ·exact⟨_,⟨ftxt_ok hnil (by omega) _,ftxt_len _ _ (by omega),fun _=>rfl,fun e=>by omega⟩,ft_zero W0 x false (by simp;omega)⟩
   ·exact⟨_,⟨ftxt_ok hnil (by omega) _,ftxt_len _ _ (by omega),fun e=>by omega,fun _=>rfl⟩,ft_zero W0 x true (by simp;omega)⟩
  ·exact⟨_,.of _ hnil (by omega) (by omega) (by omega),ft_sub W0 hF.toFInit x sg fr hxe hs hf (by omega)⟩
 ·by_cases h1:ef≤979
  ·exact⟨_,.of _ hnil (by omega) (by omega) (by omega),ft_tiny W0 hF.toFInit x sg ef fr hxe hs (by omega) h1 hf⟩
  ·by_cases h2:ef≤1041
   ·obtain⟨L,dp,hL,_,hdp,h⟩:=ft_fast W0 hF hT x sg ef fr hxe hs (by omega) h2 hf
    exact⟨_,.of _ hL hdp (by omega) (by omega),h⟩
   ·obtain⟨L,dp,hL,_,hdp,h⟩:=ft_slow W0 hF.toFInit x sg ef fr hxe hs (by omega) (by omega) hf hbb
    exact⟨_,.of _ hL hdp (by omega) (by omega),h⟩
def FfC (W0:World)(x:Nat)(t:By):Prop:=∀w:World,Env W0 w→Calls Tryz.prog 58 #[.float .f64 x,.int .u8 102,.int .i64 12,.int .i64 64] w fun e w'=>e=.returned (.string (bs t))∧w.grownBy w' none
theorem ff_of (W0:World)(x:Nat)(t:By)(h:Ft64 W0 x t):FfC W0 x t:=by
 intro w hE
 have h74:Calls Tryz.prog 74 #[.float .f64 x,.int .u8 102,.int .i64 12,.int .i64 64] w fun e w'=>e=.returned (.string (bs t))∧w.grownBy w' none:=by
  obtain⟨HH,HE⟩:=xh2 h hE;have hmx:max (16:Int) 24=24:=by decide
  obtain⟨i,hi,hz0,hz1,hz2⟩:=info_parts Tryz.info5;obtain⟨w1,hmk,hown,hg1⟩:=run_makeSlice_owned (P:=Tryz.prog) w w.heap.size 84 5 i (.int .u8 0) 1 Tryz.underlying84 hi hz0 hz1 .i64 .i64 24 (by decide) (by rw[hz2];decide) (by decide) (Nat.le_refl _);have hmk2:(Instr.makeSlice 84 (.int .i64 0) (.int .i64 24)).run Tryz.prog w=.ok (.slice (some ⟨w.heap.size,0,none⟩) 0 24) w1:=hmk;have Hown:=xhd (show OwnB w.heap.size w1 (.slice (some ⟨w.heap.size,0,none⟩) 0 24) [] from hown);have Hg1:=xhd hg1;clear h hE hi hz0 hz1 hz2 hmk hown hg1;go_enter Tryz.func74,Tryz.ntmps74;go_wp2_with fail
  refine(HH.out w1 w.heap.size _ Hown.out Hg1.out.size (HE.out.grown0 Hg1.out)).mono ?_;rintro e w2⟨v',rfl,hD⟩;have HD:=xhd hD;have Hb:=xhd (show (⟨t.toArray⟩:ByteArray)=bs t from rfl);clear hD;go_wp2_with ((with_reducible refine wpList_ownstr (o:=⟨some 31,_,_,_,_,_⟩) rfl (.tmp 30) rfl w.heap.size t ?_ ?_);(· exact HD.out.own))
  go_wp2_with fail
  go_ret;exact⟨rfl,gr_noneThen Hg1.out HD.out.gr (fun j hj=>by simp[Value.ownBlock]at hj;omega)⟩
 have H74:=xhd h74;clear h74 h hE;go_enter Tryz.func58,Tryz.ntmps58;go_wp2_with fail
 refine H74.out.mono ?_;rintro e w1⟨rfl,hg⟩;have Hg:=xhd hg;clear hg;go_wp2_with fail
 go_ret;exact⟨rfl,Hg.out⟩
open Classical in
theorem FFC_ex2 (W0:World)(hF:FInit2 W0)(hT:TabIs Tryz.prog W0 "internal/strconv.uint64pow10" .u64 pow10Tab):∃ff:Nat→By,∀x,x<18446744073709551616→x%9223372036854775808<4816244402031689728→FtX x (ff x)∧FfC W0 x (ff x):=by
 have key:∀x,∃t,x<18446744073709551616→x%9223372036854775808<4816244402031689728→FtX x t∧FfC W0 x t:=fun x=>by
  by_cases h:x<18446744073709551616∧x%9223372036854775808<4816244402031689728
  ·obtain⟨t,h1,h2⟩:=ft_ex W0 hF hT x h.1 h.2
   exact⟨t,fun _ _=>⟨h1,ff_of W0 x t h2⟩⟩
  ·exact⟨[],fun h1 h2=>absurd ⟨h1,h2⟩ h⟩
 exact⟨fun x=>Classical.choose (key x),fun x=>Classical.choose_spec (key x)⟩
theorem FFC_ex (W0:World)(hF:FInit2 W0)(hT:TabIs Tryz.prog W0 "internal/strconv.uint64pow10" .u64 pow10Tab):∃ff:Nat→By,∀x,x<18446744073709551616→x%9223372036854775808<4816244402031689728→numOk (ff x)∧FfC W0 x (ff x):=by
 obtain⟨ff,h⟩:=FFC_ex2 W0 hF hT;exact⟨ff,fun x h1 h2=>⟨(h x h1 h2).1.1,(h x h1 h2).2⟩⟩
end Go.Proofs.YtfkecmlmnhbmoaaGreatDoor
namespace Go.Proofs.YtfkecmlmnhbmoaaGreatDoor
open Go Go.RowKit
def R12 (pf:By→Nat)(ff:Nat→By)(x:Nat):Prop:=FloatKind.f64.format.order (pf (ff x)) x=some Ordering.eq
def FfAll (ff:Nat→By)(W0:World):Prop:=∀x,x<18446744073709551616→x%9223372036854775808<4816244402031689728→numOk (ff x)∧FfC W0 x (ff x)
def TwPost (pf:By→Nat)(ff:Nat→By)(x:Nat)(w w':World)(e:Ending):Prop:=∃b:Bool,e=.returned (.bool b)∧w.grownBy w' none∧(b=true→numOk (ff x)∧R12 pf ff x∧x%9223372036854775808<4816244402031689728)
theorem twelve_any (pf:By→Nat)(ff:Nat→By)(W0:World)(hpf:PFC pf W0)(hff:FfAll ff W0)(x:Nat)(hx:x<18446744073709551616)(w:World)(hE:Env W0 w):Calls Tryz.prog 31 #[.float .f64 x] w fun e w'=>TwPost pf ff x w w' e:=by
 obtain⟨r,w1,hr,hw1,hfin⟩:=run_self_sub x w
 have hg1:w.grownBy w1 none:=by
  rcases hw1 with rfl|rfl
  ·exact xgr _ _
  ·exact gr_drew (xgr _ _)
 have Hg1:=xhd hg1;clear hg1 hw1;rcases hfin with⟨hf,hb⟩|⟨hf,hb⟩
 ·rcases xbt (FloatKind.f64.format.order x 4816244402031689728==some Ordering.gt||FloatKind.f64.format.order x 4816244402031689728==some Ordering.eq) with hc|hc
  ·clear hf
   go_enter Tryz.func31,Tryz.ntmps31;go_wp2_with fail
   go_ret;exact⟨false,rfl,Hg1.out,fun h=>by cases h⟩
  ·rcases xbt (FloatKind.f64.format.order x 14039616438886465536==some Ordering.lt||FloatKind.f64.format.order x 14039616438886465536==some Ordering.eq) with hd|hd
   ·clear hf
    go_enter Tryz.func31,Tryz.ntmps31;go_wp2_with fail
    go_ret;exact⟨false,rfl,Hg1.out,fun h=>by cases h⟩
   ·have hlt:x%9223372036854775808<4816244402031689728:=by
     by_cases hge:4816244402031689728≤x%9223372036854775808
     ·exfalso
      by_cases hs:x<9223372036854775808
      ·rcases ord_pos hs (by omega) (by omega) with h|h<;>(rw[h]at hc;revert hc;decide)
      ·rcases ord_neg (by omega) hx hge hf with h|h<;>(rw[h]at hd;revert hd;decide)
     ·omega
    obtain⟨hok,hfc⟩:=hff x hx hlt;have Hlt:=xhd (And.intro hok hlt);have H1:=xhd (hfc w1 (hE.grown0 Hg1.out));have H2:=xhd (fun (w2:World) (hg2:w1.grownBy w2 none)=>hpf (ff x) w2 hok ((hE.grown0 Hg1.out).grown0 hg2));have He:=xhd (show (⟨(ff x).toArray⟩:ByteArray)=bs (ff x) from rfl);obtain⟨t,ht⟩:∃t,t=bs (ff x):=⟨_,rfl⟩;obtain⟨g,hg⟩:∃g,g=pf (ff x):=⟨_,rfl⟩;rw[He.out,←ht,←hg]at H2;rw[←ht]at H1;have Hg:=xhd hg;clear hok hfc hlt ht hg hff hpf hE hf He;rcases xbt (FloatKind.f64.format.order g x==some Ordering.eq) with heq|heq
    all_goals
     go_enter Tryz.func31,Tryz.ntmps31;go_wp2_with fail
     refine H1.out.mono ?_;rintro e w2⟨rfl,hg2⟩;have Hg2:=xhd hg2;clear hg2;go_wp2_with fail
     refine(H2.out w2 Hg2.out).mono ?_;rintro e w3⟨rfl,hg3⟩;have Hg3:=xhd hg3;clear hg3;go_wp2_with fail
     go_ret
     first
      | exact⟨false,rfl,Hg1.out.trans (Hg2.out.trans Hg3.out),fun h=>by cases h⟩
      | exact⟨true,rfl,Hg1.out.trans (Hg2.out.trans Hg3.out),fun _=>⟨Hlt.out.1,by unfold R12;rw[←Hg.out];simpa using heq,Hlt.out.2⟩⟩
 ·clear hf
  go_enter Tryz.func31,Tryz.ntmps31;go_wp2_with fail
  go_ret;exact⟨false,rfl,Hg1.out,fun h=>by cases h⟩
end Go.Proofs.YtfkecmlmnhbmoaaGreatDoor
