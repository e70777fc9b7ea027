/- Parts F15 G5 G10 G11 G12 G13 G15 C3 J2 J3. -/
import Derived.Test.YtfkecmlmnhbmoaaGreatDoorX24
set_option linter.unusedVariables false
set_option linter.unusedSimpArgs false
set_option maxRecDepth 100000
set_option maxHeartbeats 40000000
namespace Go.Proofs.YtfkecmlmnhbmoaaGreatDoor
open Go Go.RowKit
theorem a2H (n:Int)(w:World):(callFunc 152 #[.int .u64 n]).run Tryz.prog w=.ok (.value (.float .f64 n.toNat)) w:=by
 rw[run_callFunc_extern Tryz.func152 (by kernel_rfl) (by kernel_rfl) (by kernel_rfl) (e:=Extern.MathFloatBits.float64frombits) (by kernel_rfl)];rfl
theorem b2q (m e:Int)(h0:0≤m)(h1:m≤18446744073709551615)(hm:m%9223372036854775808≤9007199254740992)(h2:-1000≤e)(h3:e<972):∃x:Nat,nnF x∧∀w:World,Calls Tryz.prog 202 #[.int .u64 m,.int .i64 e] w fun e w'=>e=.returned (.tuple #[.float .f64 x,.nilIface])∧w'=w:=by
 have hfb:=a2H;rcases xbt (bits BinOp.and IntKind.u64 m 4503599627370496==0) with hb|hb
 all_goals
  have Hm:=xhd hm;clear hm;apply Exists.intro;refine⟨?_,fun w=>?_⟩
  rotate_left
  go_enter Tryz.func202,Tryz.ntmps202;go_wp2_with fail
  go_ret2;exact⟨rfl,rfl⟩
  first
   | exact b7t m e h0 h1 Hm.out h2 h3 hb
   | exact a5Q (by have:=Hm.out;omega) (by have:=Hm.out;omega)
theorem b2_t (w:World):Calls Tryz.prog 151 #[.bool true] w fun e w'=>e=.returned (.int .u64 1)∧w'=w:=by
 go_enter Tryz.func151,Tryz.ntmps151;go_wp2_with fail
 go_ret;exact⟨rfl,rfl⟩
theorem b2_f (w:World):Calls Tryz.prog 151 #[.bool false] w fun e w'=>e=.returned (.int .u64 0)∧w'=w:=by
 go_enter Tryz.func151,Tryz.ntmps151;go_wp2_with fail
 go_ret;exact⟨rfl,rfl⟩
theorem a5h (a b:Int):0≤bits BinOp.or IntKind.u64 a b∧bits BinOp.or IntKind.u64 a b≤18446744073709551615:=bits_within .or .u64 a b
theorem c2w (x hi lo:Nat)(hx:x<18446744073709551616)(hh:hi<18446744073709551616)(hl:lo<18446744073709551616) :
  ∃u:Int,(0≤u∧u≤72057594037927935)∧∀(w:World) (pb:Nat),w.cell? ⟨pb,0,none⟩=some (.int .u64 hi)→w.cell? ⟨pb,1,none⟩=some (.int .u64 lo)→w.cell? ⟨pb,2,none⟩=some (.int .i64 8) →
  Calls Tryz.prog 162 #[.int .u64 x,.pointer (some ⟨pb,0,none⟩)] w fun e w'=>e=.returned (.int .u64 u)∧∃n,w'=w.drewN n:=by
 have hb8:bits BinOp.and IntKind.i64 8 63=8:=by decide
 obtain⟨H,hH⟩:∃H,H=x*hi/18446744073709551616:=⟨_,rfl⟩;obtain⟨M,hM⟩:∃M,M=x*hi%18446744073709551616:=⟨_,rfl⟩;obtain⟨M2,hM2⟩:∃M2,M2=x*lo/18446744073709551616:=⟨_,rfl⟩;have hHb:H<18446744073709551616:=by rw[hH];exact Nat.div_lt_of_lt_mul (Nat.mul_lt_mul'' hx hh)
 have hMb:M<18446744073709551616:=by rw[hM];exact Nat.mod_lt _ (by decide)
 have hM2b:M2<18446744073709551616:=by rw[hM2];exact Nat.div_lt_of_lt_mul (Nat.mul_lt_mul'' hx hl)
 obtain⟨HH,HM,HM2⟩:=xh3 hH hM hM2;clear hH hM hM2
 rcases xbt ((H:Int)/256*256 != (H:Int)) with hc1|hc1
 ·apply Exists.intro
  refine⟨?_,fun w pb c0 c1 c2=>?_⟩
  rotate_left
  go_enter Tryz.func162,Tryz.ntmps162;go_wp2_with fail
  refine(Tryz.bits_Mul64 x hi hx hh _).mono ?_;rintro e w1⟨rfl,hw⟩;subst w1;rw[←HH.out,←HM.out];go_wp2_with fail
  go_ret;exact⟨rfl,0,rfl⟩;refine a8P ?_ ?_ ?_ ?_<;>first|decide|omega|(rw[IntKind.wrap_u64];omega)
 ·by_cases hlt:M<M2
  ·rcases xbt (decide (1<IntKind.u64.wrap ((M:Int)-(M2:Int)))) with hd|hd
   all_goals
    apply Exists.intro;refine⟨?_,fun w pb c0 c1 c2=>?_⟩
    rotate_left
    go_enter Tryz.func162,Tryz.ntmps162;go_wp2_with fail
    refine(Tryz.bits_Mul64 x hi hx hh _).mono ?_;rintro e w1⟨rfl,hw⟩;subst w1;rw[←HH.out,←HM.out];go_wp2_with fail
    refine(Tryz.bits_Mul64 x lo hx hl _).mono ?_;rintro e w1⟨rfl,hw⟩;subst w1;rw[←HM2.out];go_wp2_with fail
    first
     | refine(b2_t _).mono ?_
     | refine(b2_f _).mono ?_
    rintro e w1⟨rfl,hw⟩;subst w1;go_wp2_with fail
    go_quiet ((go_at_call 151;with_reducible first|exact Calls.quiet_of_same (b2_t _)|exact Calls.quiet_of_same (b2_f _)))
    go_wp2_with fail
    go_ret;exact⟨rfl,_,rfl⟩;refine a8P ?_ ?_ ?_ ?_<;>first|decide|omega|(rw[IntKind.wrap_u64];omega)
  ·rcases xbt (decide (1<(M:Int)-(M2:Int))) with hd|hd
   all_goals
    apply Exists.intro;refine⟨?_,fun w pb c0 c1 c2=>?_⟩
    rotate_left
    go_enter Tryz.func162,Tryz.ntmps162;go_wp2_with fail
    refine(Tryz.bits_Mul64 x hi hx hh _).mono ?_;rintro e w1⟨rfl,hw⟩;subst w1;rw[←HH.out,←HM.out];go_wp2_with fail
    refine(Tryz.bits_Mul64 x lo hx hl _).mono ?_;rintro e w1⟨rfl,hw⟩;subst w1;rw[←HM2.out];go_wp2_with fail
    first
     | refine(b2_t _).mono ?_
     | refine(b2_f _).mono ?_
    rintro e w1⟨rfl,hw⟩;subst w1;go_wp2_with fail
    go_quiet ((go_at_call 151;with_reducible first|exact Calls.quiet_of_same (b2_t _)|exact Calls.quiet_of_same (b2_f _)))
    go_wp2_with fail
    go_ret;exact⟨rfl,_,rfl⟩;refine a8P ?_ ?_ ?_ ?_<;>first|decide|omega|(rw[IntKind.wrap_u64];omega)
structure a5t (W0:World):Prop extends b0Y W0 where
 p10:∀i:Nat,i<696→∃h l:Nat,h<18446744073709551616∧l<18446744073709551616∧W0.cell? ⟨21,i*2,Option.none⟩=some (.int .u64 h)∧W0.cell? ⟨21,i*2+1,Option.none⟩=some (.int .u64 l)
 p64:∃fb fo fc,W0.cell? ⟨20,0,Option.none⟩=some (.slice (some ⟨fb,fo,Option.none⟩) 23 fc)∧∀i:Nat,i<23→∃x:Nat,W0.cell? ⟨fb,fo+i,Option.none⟩=some (.float .f64 x)
theorem a5Y (w:World)(pb:Nat)(e p lp:Int)(i hi lo:Nat)(T:TypeId)(v0 v1 v2:Value)(hi9:p+348=i)(hi696:i<696)(hne:¬pb=21)(t0:w.cell? ⟨21,i*2,none⟩=some (.int .u64 hi))(t1:w.cell? ⟨21,i*2+1,none⟩=some (.int .u64 lo))
  (hb:w.heap[pb]?=some (.cells #[v0,v1,v2] T (0,0)))(he1:-10000≤e)(he2:e≤10000)(hl1:-10000≤lp)(hl2:lp≤10000) :
  Calls Tryz.prog 160 #[.pointer (some ⟨pb,0,none⟩),.int .i64 e,.int .i64 p,.int .i64 lp] w fun e' w'=>e'=.returned (.tuple #[])∧w'.heap[pb]?=some (.cells #[.int .u64 hi,.int .u64 lo,.int .i64 (-(e+lp+3))] T (0,0))∧w.grownBy w' (some pb):=by
 have c0:w.cell? ⟨pb,0,none⟩=some v0:=by simp[World.cell?,hb]
 have c1:w.cell? ⟨pb,1,none⟩=some v1:=by simp[World.cell?,hb]
 have c2:w.cell? ⟨pb,2,none⟩=some v2:=by simp[World.cell?,hb]
 have cf:∀j,w.frozen? ⟨pb,j,none⟩=false:=by simp[World.frozen?,hb]
 have hp1:-348≤p:=by omega
 have hp2:p≤347:=by omega
 have hne2:¬21=pb:=fun x=>hne x.symm;have HB:=xhd hb;clear hb
 go_enter Tryz.func160,Tryz.ntmps160;go_wp2_with fail
 go_end0;refine⟨rfl,?_,a0e (a0e (a0e (xgr w (some pb)) _ _) _ _) _ _⟩;simp[World.setCell,Array.getElem?_modify,HB.out]
def BalI (l r:By)(T:Nat)(i:Nat)(j:Nat)(esc:Bool)(rest:By):Prop :=
 ∃pre,pre++rest=40::l∧i=pre.length∧((pre=[]∧j=0∧esc=false∧∃s,balF false l 1=some (s,r)∧T=s.length+1)∨(1≤j∧j≤i∧∃s,balF esc rest j=some (s,r)∧i+s.length=T))
theorem b3N {esc:Bool}{c:UInt8}{rest s r:By}{j i T:Nat}{l:By}{pre:By}(h:balF esc (c::rest) j=some (s,r))(hp:pre++c::rest=40::l)(hi:i=pre.length)(hT:i+s.length=T)(hj:1≤j)(hji:j≤i) :
  (esc=true→BalI l r T (i+1) j false rest)∧(esc=false→((c.toNat:Int)=92→BalI l r T (i+1) j true rest)∧((c.toNat:Int)=40→BalI l r T (i+1) (j+1) false rest)∧((c.toNat:Int)=41→(j=1→i=T)∧(j≠1→BalI l r T (i+1) (j-1) false rest))∧((c.toNat:Int)≠92→(c.toNat:Int)≠40→(c.toNat:Int)≠41→BalI l r T (i+1) j false rest)):=by
 have hp2:(pre++[c])++rest=40::l:=by simpa using hp
 have hi2:i+1=(pre++[c]).length:=by simp[hi]
 have key:∀ {esc':Bool} {j':Nat},1≤j'→j'≤i+1→(balF esc' rest j').map (fun q=>(c::q.1,q.2))=some (s,r)→BalI l r T (i+1) j' esc' rest:=by
  intro esc' j' hj' hj2 hm
  cases hb:balF esc' rest j' with
  | none=>rw[hb]at hm;simp at hm
  | some q =>
   obtain⟨s2,r2⟩:=q;rw[hb]at hm;simp at hm;obtain⟨rfl,rfl⟩:=hm;exact⟨pre++[c],hp2,hi2,.inr ⟨hj',hj2,s2,hb,by simp at hT;omega⟩⟩
 constructor
 ·intro e;subst e
  simp only[balF]at h;exact key hj (by omega) h
 ·intro e;subst e
  refine⟨fun hc=>?_,fun hc=>?_,fun hc=>?_,fun h1 h2 h3=>?_⟩
  ·simp only[balF,hc,beq_self_eq_true,if_true]at h
   exact key hj (by omega) h
  ·simp only[balF,hc]at h
   exact key (by omega) (by omega) (by simpa using h)
  ·simp only[balF,hc]at h
   constructor
   ·intro e;subst e
    simp at h;obtain⟨rfl,_⟩:=h;simpa using hT
   ·intro e
    exact key (by omega) (by omega) (by simpa[e] using h)
  ·have e1:((c.toNat:Int)==92)=false:=by simpa using h1
   have e2:((c.toNat:Int)==40)=false:=by simpa using h2
   have e3:((c.toNat:Int)==41)=false:=by simpa using h3
   simp only[balF,e1,e2,e3,Bool.false_eq_true,if_false]at h;exact key hj (by omega) h
theorem b6q (l s r:By)(h:balF false l 1=some (s,r))(hl:l.length≤1000000000)(w:World):Calls Tryz.prog 135 #[.string (bs (40::l))] w fun e w'=>e=.returned (.int .i64 (s.length+1:Nat))∧w'=w:=by
 obtain⟨T,hT⟩:∃T,T=s.length+1:=⟨_,rfl⟩;rw[←hT];obtain⟨HT,Hh⟩:=xh2 hT h;clear hT h;obtain⟨z,hz⟩:∃z,z=bs (40::l):=⟨_,rfl⟩;rw[←hz];have hzs:z.size=l.length+1:=by rw[hz,a0f];simp
 have Hz:=xhd hz;clear hz;go_enter Tryz.func135,Tryz.ntmps135;go_wp2_with fail
 go_loopg [3,4,5] (l.length+1) (fun g t3 t4 t5 wr=>∃(i j:Nat) (esc:Bool) (rest:By),g=rest.length∧t3=.int .i64 j∧t4=.bool esc∧t5=.int .i64 i∧wr=w∧BalI l r T i j esc rest)
 case atStart=>exact⟨0,0,false,40::l,rfl,rfl,rfl,rfl,rfl,[],rfl,rfl,.inl ⟨rfl,rfl,rfl,s,Hh.out,HT.out⟩⟩
 case round =>
  obtain⟨i,j,esc,rest,hg,rfl,rfl,rfl,rfl,pre,hp,hi,hcase⟩:=hrel
  cases rest with
  | nil =>
   exfalso;rcases hcase with⟨rfl,_⟩|⟨_,_,s2,hb,_⟩
   ·simp at hp
   ·cases esc<;>simp[balF]at hb
  | cons c rest =>
   obtain⟨hk,hget⟩:=a3k (l:=40::l) (pre:=pre) (post:=rest) (c:=c) hp.symm;rw[←Hz.out]at hk;have hget2:z[pre.length]'hk=c:=by simp only[Hz.out];exact hget
   rw[←hi]at hk;have hget3:z[i]'hk=c:=by simp only[hi];exact hget2
   have hilt:i≤1000000000:=by omega
   have Hg:=xhd hg;rcases hcase with⟨hp0,rfl,rfl,s2,hb,hT2⟩|⟨hj,hji,s2,hb,hT2⟩
   ·subst hp0
    simp at hp;obtain⟨rfl,rfl⟩:=hp;obtain rfl:i=0:=hi;obtain⟨HB,HT2⟩:=xh2 hb hT2;clear hget hget2 hb hT2 hg hzs;go_wp2_with fail
    go_roundg rest.length
    case measure=>rw[Hg.out];simp
    case rel=>exact⟨1,1,false,rest,rfl,rfl,rfl,rfl,rfl,[40],rfl,rfl,.inr ⟨Nat.le_refl _,Nat.le_refl _,s2,HB.out,by rw[HT2.out];omega⟩⟩
   ·have HC := xhd (b3N hb hp hi hT2 hj hji)
    clear hget hget2 hb hT2 hg hzs hp hi
    cases esc
    ·rcases xbt ((c.toNat:Int)==92) with h92|h92
     ·go_wp2_with fail
      go_roundg rest.length
      case measure=>rw[Hg.out];simp
      case rel=>exact⟨i+1,j,true,rest,rfl,rfl,rfl,rfl,rfl,(HC.out.2 (by trivial)).1 (by simpa using h92)⟩
     ·rcases xbt ((c.toNat:Int)==40) with h40|h40
      ·have h41:((c.toNat:Int)==41)=false:=by simp at h40⊢;omega
       have hj0:¬((j:Int)+1=0):=by omega
       go_wp2_with fail
       go_roundg rest.length
       case measure=>rw[Hg.out];simp
       case rel=>exact⟨i+1,j+1,false,rest,rfl,rfl,rfl,rfl,rfl,(HC.out.2 (by trivial)).2.1 (by simpa using h40)⟩
      ·rcases xbt ((c.toNat:Int)==41) with h41|h41
       ·by_cases hj1:j=1
        ·subst hj1
         have hiT:=((HC.out.2 (by trivial)).2.2.1 (by simpa using h41)).1 rfl;subst hiT;go_wp2_with fail
         go_ret;exact⟨rfl,rfl⟩
        ·have hj0:¬((j:Int)-1=0):=by omega
         go_wp2_with fail
         go_roundg rest.length
         case measure=>rw[Hg.out];simp
         case rel=>exact⟨i+1,j-1,false,rest,rfl,by congr 1;omega,rfl,rfl,rfl,((HC.out.2 (by trivial)).2.2.1 (by simpa using h41)).2 hj1⟩
       ·have hj0:¬((j:Int)=0):=by omega
        go_wp2_with fail
        go_roundg rest.length
        case measure=>rw[Hg.out];simp
        case rel=>exact⟨i+1,j,false,rest,rfl,rfl,rfl,rfl,rfl,(HC.out.2 (by trivial)).2.2.2 (by simpa using h92) (by simpa using h40) (by simpa using h41)⟩
    ·go_wp2_with fail
     go_roundg rest.length
     case measure=>rw[Hg.out];simp
     case rel=>exact⟨i+1,j,false,rest,rfl,rfl,rfl,rfl,rfl,HC.out.1 (by trivial)⟩
structure a3M (W0:World):Prop where
 init:Init W0
 tabs:Lib.Utf8Tabs 26 27 W0
 hexErr:∃ev,W0.cell? ⟨23,0,Option.none⟩=some ev
theorem b5k {W0 w:World}(h:Lib.Utf8Tabs 26 27 W0)(hE:Env W0 w):Lib.Utf8Tabs 26 27 w :=
 ⟨fun c hc=>hE.cell (h.1 c hc),fun i hi=>⟨hE.cell (h.2 i hi).1,hE.cell (h.2 i hi).2⟩⟩
theorem b0Q (q:UInt8→Bool):∀l:By,∃a b,l=a++b∧(∀c∈b,q c=true)∧∀c∈a.getLast?,q c=false:=by
 intro l
 induction l with
 | nil=>exact⟨[],[],rfl,by simp,by simp⟩
 | cons c l ih =>
  obtain⟨a,b,rfl,h1,h2⟩:=ih
  by_cases ha:a=[]
  ·subst ha
   by_cases hc:q c=true
   ·exact⟨[],c::b,rfl,fun d hd=>by rcases List.mem_cons.1 hd with rfl|hd;exact hc;exact h1 d hd,by simp⟩
   ·exact⟨[c],b,rfl,h1,by simp;simpa using hc⟩
  ·refine⟨c::a,b,rfl,h1,fun d hd=>h2 d ?_⟩
   cases a with
   | nil=>exact absurd rfl ha
   | cons e a=>rwa [List.getLast?_cons_cons]at hd
theorem b3c (w:World):PredAt Tryz.prog 95 #[] encR (fun x=>a1v (x:Nat)) w:=fun W x _=>(a8m x W).mono fun _ _ h=>⟨h.1,0,by rw[h.2];rfl⟩
theorem a8l (args:Array Value)(w:World):(callFunc 95 args).run Tryz.prog w=.ok (.enter 95 args) w:=by
 simp[go_sem]
theorem a7s {c:UInt8}(h:a0h (c.toNat:Int)=true)(h0:(c.toNat:Int)≠0):(c.toNat:Int)<128∧a1v (c.toNat:Nat)=true:=by
 have:=a2C h;refine⟨by omega,?_⟩;unfold a1v;simp only[Bool.or_eq_true,beq_iff_eq,decide_eq_true_eq,Bool.and_eq_true];omega
theorem b6b {c:UInt8}(h:a3g c)(hw:a0h (c.toNat:Int)=false):(c.toNat:Int)<128∧a1v (c.toNat:Nat)=false:=by
 have h1:=a5D h;rcases h with⟨h2,_⟩|⟨_,h2⟩
 ·rw[hw]at h2;exact absurd h2 (by decide)
 ·have h3:=(a7K c h2).2.2.2
  have hv:=a3w c;refine⟨h1.2,?_⟩;unfold a1v;simp only[Bool.or_eq_false_iff,beq_eq_false_iff_ne,Bool.and_eq_false_iff,decide_eq_false_iff_not]
  split at hv<;>omega
theorem b0T (W0:World)(hI:a3M W0)(h:By)(hok:∀c∈h,a3g c)(hl:h.length≤1000000000)(w:World)(hE:Env W0 w):Calls Tryz.prog 194 #[.string (bs h)] w fun e w'=>(∃a m b,h=a++m++b∧(∀c∈a,a0h (c.toNat:Int)=true∧(c.toNat:Int)≠0)∧(∀c∈b,a0h (c.toNat:Int)=true)∧e=.returned (.string (bs m)))∧Below w.heap.size w w':=by
 have hT:=b5k hI.tabs hE
 have e1:Lib.trimLeftF (fun x=>a1v (x:Nat)) (bs h)=bs (h.dropWhile fun c=>a0h (c.toNat:Int)):=by
  refine a3T _ (fun c=>a0h (c.toNat:Int)) h (fun c hc=>?_) (fun c hc=>?_)
  ·have hw:=a3e c hc
   have hm:c∈h:=(List.takeWhile_sublist _).subset hc;refine a7s hw ?_;rcases hok c hm with h1|h1
   ·exact h1.2
   ·rw[hw]at h1;exact absurd h1.1 (by decide)
  ·have hw:=a3P c hc
   have hm:c∈h:=(List.dropWhile_sublist _).subset (List.mem_of_mem_head? hc);exact b6b (hok c hm) hw
 have hd:h.takeWhile (fun c=>a0h (c.toNat:Int))++h.dropWhile (fun c=>a0h (c.toNat:Int))=h:=List.takeWhile_append_dropWhile
 have ha:∀c∈h.takeWhile (fun c=>a0h (c.toNat:Int)),a0h (c.toNat:Int)=true∧(c.toNat:Int)≠0:=by
  intro c hc;have hw:=a3e c hc;have hm:c∈h:=(List.takeWhile_sublist _).subset hc;refine⟨hw,?_⟩;rcases hok c hm with h1|h1
  ·exact h1.2
  ·rw[hw]at h1;exact absurd h1.1 (by decide)
 have hok1:∀c∈h.dropWhile (fun c=>a0h (c.toNat:Int)),a3g c:=fun c hc=>hok c ((List.dropWhile_sublist _).subset hc);have hlen:(h.dropWhile (fun c=>a0h (c.toNat:Int))).length≤h.length:=(List.dropWhile_sublist _).length_le;generalize h.takeWhile (fun c=>a0h (c.toNat:Int))=a at hd ha;generalize h.dropWhile (fun c=>a0h (c.toNat:Int))=h1 at e1 hd hok1 hlen;obtain⟨m,b,hmb,hb,hm⟩:=b0Q (fun c=>a0h (c.toNat:Int)) h1
 have e2:Lib.trimRightF (fun x=>a1v (x:Nat)) (bs h1)=bs m:=by
  rw[hmb];refine a6h _ m b (fun c hc=>?_) (fun c hc=>?_)
  ·have hcm:c∈m:=List.mem_of_getLast? hc
   exact b6b (hok1 c (by rw[hmb];simp[hcm])) (hm c hc)
  ·have hw:=hb c hc
   refine a7s hw ?_;rcases hok1 c (by rw[hmb];simp[hc]) with h2|h2
   ·exact h2.2
   ·rw[hw]at h2;exact absurd h2.1 (by decide)
 have hsz:(bs h1).size≤9223372036854775807:=by rw[a0f];omega
 obtain⟨E1,E2,HT⟩:=xh3 e1 e2 hT;have Hfin:=xhd (show h=a++m++b by rw[←hd,hmb];simp);clear e1 e2 hT hd hmb hok hok1 hlen;go_enter Tryz.func194,Tryz.ntmps194;go_wp2_with fail
 refine(Tryz.strings_TrimLeftFunc 95 #[] a8l (fun x=>a1v (x:Nat)) (bs h) w (b3c w)).mono ?_;rintro e w1⟨rfl,hb1⟩;rw[E1.out];go_wp2_with fail
 refine(Tryz.strings_TrimRightFunc 95 #[] a8l (fun x=>a1v (x:Nat)) (bs h1) w1 hsz (Utf8Tabs_below HT.out hb1) (b3c w1)).mono ?_;rintro e w2⟨rfl,hb2⟩;rw[E2.out];go_wp2_with fail
 go_ret;exact⟨⟨a,m,b,Hfin.out,ha,hb,rfl⟩,hb1.trans (hb2.mono hb1.size)⟩
theorem b9C (l p:By):Lib.hasPrefix (bs l).data.toList (bs p).data.toList=p.isPrefixOf l:=by
 rw[a1D,a1D];rw[Bool.eq_iff_iff,List.isPrefixOf_iff_prefix];simp[Lib.hasPrefix]
theorem a0L (l p:By)(v:Bool)(h:p.isPrefixOf l=v)(w:World):Calls Tryz.prog 130 #[.string (bs l),.string (bs p)] w fun e w'=>e=.returned (.bool v)∧w'=w:=by
 have:=Tryz.strings_HasPrefix (bs l) (bs p) w
 rwa [b9C,h]at this
theorem b0B (w:World)(b:Nat)(l s r:By)(hL:a0v w b (40::l))(hb:balF false l 1=some (s,r))(hs:l=s++41::r)(hl:l.length≤1000000) :
  Calls Tryz.prog 102 #[.pointer (some ⟨b,0,none⟩)] w fun e w'=>e=.returned (.tuple #[.iface 69 (.string (bs s)),.nilIface])∧a0v w' b r∧w.grownBy w' (some b):=by
 obtain⟨c0,f0⟩:=hL.cell;have hbal:=b6q l s r hb (by omega);obtain⟨z,hz⟩:∃z,z=bs (40::l):=⟨_,rfl⟩;have hzs:z.size=l.length+1:=by rw[hz,a0f];simp
 have hsl:s.length+1≤l.length:=by rw[hs];simp
 have hx1:z.extract 1 (s.length+1)=bs s:=by
  rw[hz,a1B,hs];congr 1;rw[show 40::(s++41::r)=[40]++(s++41::r) by rfl,List.take_append];simp
 have hx2:z.extract (s.length+1) z.size=bs (41::r):=by
  rw[hzs,hz,show l.length+1=(40::l).length by simp,a2u,hs];congr 1;simp
 have hpre:=fun w=>a0L (40::l) [40] true (by simp) w;have e40:(⟨#[40]⟩:ByteArray)=bs [40]:=rfl;rw[←hz]at c0 hbal hpre;have HL:=xhd hL;have hz2:¬(z.size<2):=by rw[hzs];omega
 have hz0:((z.size:Int)==0)=false:=by rw[hzs];simp only[beq_eq_false_iff_ne];omega
 have hle:s.length+1≤z.size:=by omega
 clear hL hz hb hs hzs;go_enter Tryz.func102,Tryz.ntmps102;go_wp2_with fail
 refine(hpre _).mono ?_;rintro e w1⟨rfl,rfl⟩;go_wp2_with fail
 refine(hbal _).mono ?_;rintro e w1⟨rfl,rfl⟩;go_wp2_with fail
 refine(a2J (41::r) 1 _).mono ?_;rintro e w1'⟨rfl,hw1⟩;subst w1';go_wp2_with fail
 go_ret2;exact⟨rfl,by simpa using HL.out.set r,a0e (xgr _ _) _ _⟩
theorem b0r (W0:World)(hI:a3M W0)(w:World)(hE:Env W0 w)(b:Nat)(h r:By)(hL:a0v w b (60::(h++62::r)))(hok:∀c∈h,a3g c)(hl:h.length≤1000000)(hl2:r.length≤1000000) :
  Calls Tryz.prog 134 #[.pointer (some ⟨b,0,none⟩)] w fun e w'=>(∃a m c,h=a++m++c∧(∀x∈a,a0h (x.toNat:Int)=true∧(x.toNat:Int)≠0)∧(∀x∈c,a0h (x.toNat:Int)=true)∧e=.returned (.tuple #[.iface 70 (.string (bs (hexS m 0 []))),.nilIface]))∧a0v w' b r∧w.grownBy w' (some b):=by
 obtain⟨c0,f0⟩:=hL.cell;have hbw:=hL.lt;obtain⟨l,hll⟩:∃l,l=h++62::r:=⟨_,rfl⟩;rw[←hll]at hL c0;have hidx:=a7M l 62 (by rw[hll];simp;omega);have hn62:(62:UInt8)∉h:=fun hm=>(a5D (hok 62 hm)).1 rfl;rw[hll,b6P 62 h r hn62,←hll]at hidx;obtain⟨z,hz⟩:∃z,z=bs (60::l):=⟨_,rfl⟩;obtain⟨y,hy⟩:∃y,y=bs l:=⟨_,rfl⟩;have hzs:z.size=l.length+1:=by rw[hz,a0f];simp
 have hys:y.size=l.length:=by rw[hy,a0f]
 have hsl:h.length+1≤l.length:=by rw[hll];simp
 have hx1:y.extract 0 h.length=bs h:=by
  rw[hy,a3U,hll];congr 1;simp
 have hx2:y.extract h.length y.size=bs (62::r):=by
  rw[hys,hy,a2u,hll];congr 1;simp
 have hpre:=fun w=>a0L (60::l) [60] true (by simp) w;have hfwd:=fun w=>a2J (60::l) 1 w;rw[←hz]at c0 hpre hfwd;simp only[List.drop_succ_cons,List.drop_zero,←hy]at hfwd;rw[←hy]at hidx;obtain⟨HL,HI,HE,HOK⟩:=xh4 hL hI hE hok;have hz2:¬(z.size<2):=by rw[hzs];omega
 have hz0:((z.size:Int)==0)=false:=by rw[hzs];simp only[beq_eq_false_iff_ne];omega
 have hle:h.length≤y.size:=by omega
 have e62:(⟨#[62]⟩:ByteArray)=bs [62]:=rfl;have e60:(⟨#[60]⟩:ByteArray)=bs [60]:=rfl;clear hL hI hE hok hz hy hzs hys hll hsl;go_enter Tryz.func134,Tryz.ntmps134;go_wp2_with fail
 refine(hpre _).mono ?_;rintro e w1'⟨rfl,hw1⟩;subst w1';go_wp2_with fail
 refine(hfwd _).mono ?_;rintro e w1'⟨rfl,hw1⟩;subst w1';go_wp2_with fail
 refine(hidx _).mono ?_;rintro e w1'⟨rfl,hw1⟩;subst w1';go_wp2_with fail
 refine(b0T W0 HI.out h HOK.out (by omega) _ HE.out).mono ?_;rintro e w2⟨⟨a,m,c,hm,ha,hc,rfl⟩,hb2⟩;have hmok:∀x∈m,a3g x:=fun x hx=>HOK.out x (by rw[hm];simp[hx]);have hml:m.length≤h.length:=by rw[hm];simp;omega
 have Hm:=xhd hm;clear hm;go_wp2_with fail
 refine(b0t m hmok (by omega) _).mono ?_;rintro e w3⟨⟨pb,rfl,hpb,hpb1⟩,hb3⟩;obtain⟨d0,df⟩:=hpb.cell;have hL3:a0v w3 b (60::l):=(HL.out.keep (a0o hb2) (by simp)).keep (a0o hb3) (by simp);have hG3:=(a0o hb2).trans (a0o hb3);have f3:=hL3.cell.2;have c3:=hL3.cell.1;have hlt3:=hL3.lt;have hne:pb≠b:=by have:=hb2.size;omega
 obtain⟨HL3,HG3⟩:=xh2 hL3 hG3;clear hpb hL3 hb2 hb3 hG3;go_wp2_with fail
 refine(a2J (62::r) 1 _).mono ?_;rintro e w4⟨rfl,hw4⟩;subst w4;go_wp2_with fail
 go_ret2;exact⟨⟨a,m,c,Hm.out,ha,hc,rfl⟩,by simpa using HL3.out.set r,a0e (HG3.out.but _) _ _⟩
theorem a8s {w:World}{ops:Array Oper}{rest:List Oper}{o:Oper}{a:Act}{Q:Exit→Act→World→Prop}(hgd:o.guard=Option.none)(s x:Operand)
  (ho:o.op=.call { callee:=.builtin .append,args:=#[s,x],argTypes:=#[84,84] })(B:Nat)(v:Value)(l:By)(c:UInt8)(hs:a.eval s=v)(hown:OwnB B w v l)
  (g cap:Nat)(hx:a.eval x=.slice (some ⟨g,0,none⟩) 1 cap)(hcell:w.cell? ⟨g,0,none⟩=some (.int .u8 (c.toNat:Int)))(hl:l.length+1≤140737488355328)(hB:B≤w.heap.size)
  (h:∀v' w',OwnB B w' v' (l++[c])→w.grownBy w' v.ownBlock→wpList Tryz.prog ops Q rest (a.put o.dst v') w'):wpList Tryz.prog ops Q (o::rest) a w:=by
 obtain⟨i,hi,hz0,hz1,hz2⟩:=info_parts Tryz.info5;refine wpList_append_own w hgd s x 84 ho B 5 i (.int .u8 0) 1 1 Tryz.underlying84 hi hz0 hz1 hz2 rfl (by decide) v l.length _ hs hown ⟨g,0,none⟩ 1 cap [.int .u8 (c.toNat:Int)] hx rfl ?_ ?_ (by unfold maxLen;omega) (by omega) hB ?_
 ·intro j u hj
  match j,hj with
  | 0,hj=>simp at hj;subst hj;rw[show (⟨g,0,none⟩:Addr).add 0=⟨g,0,none⟩ from by simp[Addr.add]];exact hcell
  | j+1,hj=>simp at hj
 ·intro u hu;simp at hu;subst hu;rfl
 ·intro v' w' h1 h2 _
  exact h v' w' (by unfold OwnB;simpa using h1) h2
theorem a6P (w:World)(b B:Nat)(l:By)(c:UInt8)(g cap:Nat)(h:a1F w b B l)(hc:w.cell? ⟨g,0,none⟩=some (.int .u8 (c.toNat:Int)))(hgb:g≠b)(hl:l.length≤1000000000):Calls Tryz.prog 218 #[.pointer (some ⟨b,0,none⟩),.slice (some ⟨g,0,none⟩) 1 cap] w fun e w'=>(∃k,e=.returned (.tuple #[k,.nilIface]))∧a5s B b w w' (l++[c]):=by
 have hbB:=h.1;have hBw:=h.2.1;go_enter Tryz.func218,Tryz.ntmps218;go_wp2_with fail
 refine(a5a w b B l h).mono ?_;rintro e w1⟨rfl,⟨p0,v,hb0,hb1,hv1⟩,hg1,-⟩;have Hb0:=xhd hb0;clear hb0
 have hs1:=hg1.size;have c0:w1.cell? ⟨b,0,none⟩=some (.pointer (some ⟨b,0,none⟩)):=by simp[World.cell?,hb1]
 have c1:w1.cell? ⟨b,1,none⟩=some v:=by simp[World.cell?,hb1]
 have hlt:b<w1.heap.size:=(xgl hb1);have hglt:g<w.heap.size:=World.block_lt_of_cell? _ _ hc;have hc1:w1.cell? ⟨g,0,none⟩=some (.int .u8 (c.toNat:Int)):=(World.cell?_of_block (hg1.block g hglt (by simpa using hgb))).trans hc;obtain⟨Hb1,Hv1,Hg1,Hc1⟩:=xh4 hb1 hv1 hg1 hc1;clear hb1 hv1 hg1 hc1
 clear hc;go_wp2_with (at_builtin;go_must (refine a8s rfl (.tmp 12) (.tmp 13) rfl B _ l c rfl Hv1.out g cap rfl Hc1.out (by omega) (by omega) ?_))
 intro v1 w2 hown1 hgr1
 have hb2:w2.heap[b]?=some (.cells #[.pointer (some ⟨b,0,none⟩),v] 296 (0,0)):=by
  rw[hgr1.block b hlt (a2w Hv1.out hbB)];exact Hb1.out
 have d0:w2.cell? ⟨b,0,none⟩=some (.pointer (some ⟨b,0,none⟩)):=by simp[World.cell?,hb2]
 have d1:w2.cell? ⟨b,1,none⟩=some v:=by simp[World.cell?,hb2]
 have f1:w2.frozen? ⟨b,1,none⟩=false:=by simp[World.frozen?,hb2]
 obtain⟨g2,cap2,rfl⟩:∃g cap,v1=.slice (some ⟨g,0,none⟩) (l.length+1) cap:=by
  rcases hown1.2 with⟨_,h0⟩|⟨g,cap,cur,hv,_⟩
  ·simp at h0
  ·exact⟨g,cap,by simpa using hv⟩
 have HP:=xhd (a4b hbB hBw Hb0.out Hb1.out Hv1.out Hg1.out (xgr _ _) hgr1 hown1);clear hb2 hgr1 hown1;go_wp2_with fail
 go_ret2;exact⟨⟨_,rfl⟩,HP.out⟩
theorem hx_v {c:UInt8}(h:0≤a0w (c.toNat:Int)):Lib.Hx.v c=(a0w (c.toNat:Int)).toNat:=by
 have hr:48≤(c.toNat:Int)∧(c.toNat:Int)≤57∨97≤(c.toNat:Int)∧(c.toNat:Int)≤102∨65≤(c.toNat:Int)∧(c.toNat:Int)≤70:=by
  unfold a0w at h
  repeat' split at h
  all_goals omega
 have hc:c=48∨c=49∨c=50∨c=51∨c=52∨c=53∨c=54∨c=55∨c=56∨c=57∨c=65∨c=66∨c=67∨c=68∨c=69∨c=70∨c=97∨c=98∨c=99∨c=100∨c=101∨c=102:=by
  simp only[←UInt8.toNat_inj];simp;omega
 rcases hc with rfl|rfl|rfl|rfl|rfl|rfl|rfl|rfl|rfl|rfl|rfl|rfl|rfl|rfl|rfl|rfl|rfl|rfl|rfl|rfl|rfl|rfl<;>rfl
theorem b1N {a d:UInt8}(ha:0≤a0w (a.toNat:Int))(hd:0≤a0w (d.toNat:Int)):Lib.Hx.decode [a,d]=([ub (16*a0w (a.toNat:Int)+a0w (d.toNat:Int))],.ok):=by
 have r1:=a1m (a.toNat:Int);have r2:=a1m (d.toNat:Int);rw[Lib.Hx.decode_two,hx_v ha,hx_v hd,if_neg (by omega),if_neg (by omega),Lib.Hx.decode_nil];simp only[ub];congr 2;congr 1;omega
def DnI (l:By)(k:By)(i:Nat)(rep:Bool)(rest out:By):Prop:=∃pre,l=pre++rest∧i=pre.length∧a0R rest out=some k∧out.length≤pre.length∧(rep=false→out=pre)
theorem a8x (W0:World)(hI:a3M W0)(l k:By)(hk:a0R l []=some k)(hpl:∀c∈l,a0s (c.toNat:Int)=true)(hl:l.length≤1000000)(w:World)(hE:Env W0 w):Calls Tryz.prog 190 #[.string (bs l)] w fun e w'=>e=.returned (.tuple #[.string (bs k),.nilIface])∧Below w.heap.size w w':=by
 obtain⟨ev,hev⟩:=hI.hexErr;obtain⟨z,hz⟩:∃z,z=bs l:=⟨_,rfl⟩;have hzs:z.size=l.length:=by rw[hz,a0f]
 rw[←hz];obtain⟨Hz,HE,Hev,Hk,Hpl⟩:=xh5 hz hE hev hk hpl;clear hz hE hev hk hpl hI;go_enter Tryz.func190,Tryz.ntmps190;go_wp2_with fail
 go_loopg [4,6] l.length (fun g t4 t6 wr=>∃(i:Nat) (rep:Bool) (rest out:By),rest.length≤g∧t4=.bool rep∧t6=.int .i64 i∧DnI l k i rep rest out∧a1F wr w.heap.size (w.heap.size+1) (if rep then out else [])∧(rep=false→wr.heap[w.heap.size]?=some (.cells #[.pointer none,.slice none 0 0] 296 (0,0)))∧Below w.heap.size w wr)
 case atStart=>exact⟨0,false,l,[],Nat.le_refl _,rfl,rfl,⟨[],rfl,rfl,Hk.out,Nat.le_refl _,fun _=>rfl⟩,a1F.fresh w,fun _=>heap_alloc_new w _,(Below.refl _ w).alloc (Nat.le_refl _) _⟩
 case round =>
  obtain⟨i,rep,rest,out,hg,rfl,rfl,⟨pre,hp,hi,hn,hol,hrep⟩,hB,hfr,hb⟩:=hrel;have Hfr:=xhd hfr;clear hfr
  have hple:pre.length+rest.length=l.length:=by rw[hp];simp
  cases rest with
  | nil =>
   have hlt:¬i<z.size:=by rw[hzs];simp at hple;omega
   have hok:out=k:=by simpa[a0R] using hn
   have hpre:pre=l:=by rw[hp];simp
   obtain⟨Hb,HB⟩:=xh2 hb hB;clear hb hB hp hn hg
   cases rep
   ·have ho:=hrep rfl
    have hzk:z=bs k:=by rw[Hz.out,←hok,ho,hpre]
    have Hzk:=xhd hzk;clear hrep hple hzs hi hpre hok ho hzk hol;go_wp2_with fail
    go_ret2;exact⟨by rw[Hzk.out];rfl,Hb.out⟩
   ·have Hok:=xhd hok
    clear hrep hple hzs hi hpre hok hol;go_wp2_with fail
    refine(a5r wr w.heap.size _ _ HB.out).mono ?_;rintro e w2⟨rfl,hb2⟩;go_wp2_with fail
    go_ret2;exact⟨by simp[Hok.out],Hb.out.trans hb2⟩
  | cons c rest =>
   have hlt:i<z.size:=by rw[hzs];simp at hple;omega
   obtain⟨hk0,hget0⟩:=a3k (l:=l) (pre:=pre) (c:=c) (post:=rest) hp;have hget:z[i]'hlt=c:=by simp only[Hz.out,hi];exact hget0
   have hplc:=a3a (Hpl.out c (by rw[hp];simp));have hc0:((c.toNat:Int)==0)=false:=by simp only[beq_eq_false_iff_ne];omega
   have hil:i<1000000:=by omega
   have hol2:out.length≤1000000:=by omega
   obtain⟨Hb,HB,Hp,Hi,Hol,Hrep⟩:=xh6 hb hB hp hi hol hrep;clear hb hB hi hol hrep hk0 hget0;rcases xbt ((c.toNat:Int) != 35) with h35|h35
   ·have hn2:=xhd (show a0R rest (out++[c])=some k by rw[←hn,a2b h35])
    clear hp hn hple hzs
    cases rep
    ·go_wp2_with fail
     go_roundg (gk-1)
     case measure=>simp at hg;omega
     case rel=>exact⟨i+1,false,rest,out++[c],by simp at hg;omega,rfl,rfl,⟨pre++[c],by rw[Hp.out];simp,by rw[Hi.out];simp,hn2.out,by have:=Hol.out;simp;omega,fun _=>by rw[Hrep.out (by trivial)]⟩,HB.out,(fun _=>Hfr.out (by trivial)),Hb.out⟩
    ·go_wp2_with fail
     refine(a6i wr w.heap.size _ out c HB.out (by omega)).mono ?_;rintro e w2⟨rfl,hB2,hK2⟩;go_wp2_with fail
     go_roundg (gk-1)
     case measure=>simp at hg;omega
     case rel=>exact⟨i+1,true,rest,out++[c],by simp at hg;omega,rfl,rfl,⟨pre++[c],by rw[Hp.out];simp,by rw[Hi.out];simp,hn2.out,by have:=Hol.out;simp;omega,fun e=>by cases e⟩,hB2,(fun e=>by cases e),Hb.out.trans hK2.1⟩
   ·match rest, hn, hp, hple, hg with
    | [],hn,_,_,_=>rw[a5M h35]at hn;simp at hn
    | [a],hn,_,_,_=>rw[a5N h35]at hn;simp at hn
    | a :: d :: rest2, hn, hp, hple, hg =>
     rw[a2V h35]at hn
     split at hn
     ·simp at hn
     ·rename_i hv
      simp only[not_or,Int.not_lt]at hv
      split at hn
      ·simp at hn
      ·rename_i hz0
       have hn2:=xhd hn;obtain⟨x,hx⟩:∃x,x=ub (16*a0w (a.toNat:Int)+a0w (d.toNat:Int)):=⟨_,rfl⟩;have r1:=a1m (a.toNat:Int);have r2:=a1m (d.toNat:Int)
       have hx0:((x.toNat:Int)==0)=false:=by
        rw[hx,←b3s (by omega) (by omega)];simpa using hz0
       have hdec:=b1N hv.1 hv.2;rw[←hx]at hdec hn2;have hlt3:¬((z.size:Int)<(i:Int)+3):=by rw[hzs];simp at hple;have:=Hi.out;omega
       have hcut:z.extract (i+1) (i+3)=bs [a,d]:=by
        rw[Hz.out,a1B,hp,Hi.out];congr 1;rw[show pre++c::a::d::rest2=(pre++[c,a,d])++rest2 by simp,List.take_left' (by simp),show pre++[c,a,d]=(pre++[c])++[a,d] by simp,List.drop_left' (by simp)]
       have hsl:i+3≤z.size:=by rw[hzs];simp at hple;have:=Hi.out;omega
       have hpre:z.extract 0 i=bs pre:=by
        rw[Hz.out,a3U,hp,Hi.out];congr 1;simp
       obtain⟨Hdec,Hple,Hp,Hx⟩:=xh4 hdec hple hp hx;clear hn hp hple hzs hdec hv hz0 r1 r2 hx;go_wp2_with fail
       have hEw:=HE.out.grown0 (a0o Hb.out);refine(Tryz.hex_DecodeString_owns (bs [a,d]) wr ev (hEw.cell Hev.out) (by rw[a0f];simp)).mono ?_;rintro e w2⟨v,rfl,hown,hb2⟩;rw[a1D,Hdec.out]at hown;rw[a1D,Hdec.out];simp only[Lib.Hx.errVal]
       obtain⟨g,cap,hvv,hgb,hcell,hglt⟩:∃g cap,v=.slice (some ⟨g,0,none⟩) 1 cap∧wr.heap.size≤g∧w2.cell? ⟨g,0,none⟩=some (.int .u8 (x.toNat:Int))∧g<w2.heap.size:=by
        rcases hown.2 with⟨_,h0⟩|⟨g,cap,cur,hv,hb,hg,hc,hm,hs,ht⟩
        ·simp at h0
        ·refine⟨g,cap,hv,hb,?_,(xgl hg)⟩
         have h0:cur.toList[0]?=some (.int .u8 (x.toNat:Int)):=by
          have:=congrArg (fun l=>l[0]?) ht;simp only[List.getElem?_take]at this;simpa using this
         have h1:cur[0]?=some (.int .u8 (x.toNat:Int)):=by simpa using h0
         simp[World.cell?,hg,h1]
       subst hvv;have hBb:w.heap.size<wr.heap.size:=by have:=HB.out.2.1;omega
       have HB2:=xhd (HB.out.below hb2);have Hb2:=xhd (Hb.out.trans (hb2.mono Hb.out.size));have hb2b:=xhd hb2;clear hown hb2 hEw
       cases rep
       ·have HB3:=xhd (show a1F w2 w.heap.size (w.heap.size+1) [] from HB2.out)
        have Hfw:=xhd ((hb2b.out.block w.heap.size hBb).trans (Hfr.out (by trivial)));go_wp2_with fail
        refine(a4x w2 w.heap.size _ [] pre HB3.out (by have:=Hi.out;simp;omega)).mono ?_;rintro e w3⟨⟨k3,rfl⟩,hB4,hK4⟩;have hpo:pre=out:=(Hrep.out (by trivial)).symm;rw[List.nil_append,hpo]at hB4
        have hcell3:w3.cell? ⟨g,0,none⟩=some (.int .u8 (x.toNat:Int)):=by
         have hfw:w2.heap[w.heap.size]?=some (.cells #[.pointer none,.slice none 0 0] 296 (0,0)):=Hfw.out;refine(World.cell?_of_block (hK4.2.2.2 g hglt (by omega) (fun p v hpv=>?_))).trans hcell;rw[hfw]at hpv;injection hpv with hpv;injection hpv with hpv;have:=congrArg (fun a=>a[1]?) hpv;simp at this;rw[←this];simp[Value.ownBlock]
        go_wp2_with fail
        refine(a6P w3 w.heap.size _ out x g cap hB4 hcell3 (by omega) (by omega)).mono ?_;rintro e w4⟨⟨k4,rfl⟩,hB5,hK5⟩;go_wp2_with fail
        go_roundg (gk-3)
        case measure=>simp at hg;omega
        case rel=>exact⟨i+3,true,rest2,out++[x],by simp at hg;omega,rfl,by congr 1,⟨pre++[c,a,d],by rw[Hp.out];simp,by rw[Hi.out];simp,hn2.out,by have:=Hol.out;simp;omega,fun e=>by cases e⟩,hB5,(fun e=>by cases e),(Hb2.out.trans hK4.1).trans hK5.1⟩
       ·have HB3:=xhd (show a1F w2 w.heap.size (w.heap.size+1) out from HB2.out)
        go_wp2_with fail
        refine(a6P w2 w.heap.size _ out x g cap HB3.out hcell (by omega) (by omega)).mono ?_;rintro e w4⟨⟨k4,rfl⟩,hB5,hK5⟩;go_wp2_with fail
        go_roundg (gk-3)
        case measure=>simp at hg;omega
        case rel=>exact⟨i+3,true,rest2,out++[x],by simp at hg;omega,rfl,by congr 1,⟨pre++[c,a,d],by rw[Hp.out];simp,by rw[Hi.out];simp,hn2.out,by have:=Hol.out;simp;omega,fun e=>by cases e⟩,hB5,(fun e=>by cases e),Hb2.out.trans hK5.1⟩
def nmCs:By:=[47,60,62,40,41,91,93,37]
theorem a6b {n:Int}(h:a0Y n=true):n≠0∧n≠9∧n≠10∧n≠12∧n≠13∧n≠32∧n≠40∧n≠41∧n≠60∧n≠62∧n≠91∧n≠93∧n≠123∧n≠125∧n≠47∧n≠37:=by
 unfold a0Y a0h a0U at h;simp at h;omega
theorem a4S {n:Int}(h:a0Y n=false):n=0∨n=9∨n=10∨n=12∨n=13∨n=32∨n=40∨n=41∨n=60∨n=62∨n=91∨n=93∨n=123∨n=125∨n=47∨n=37:=by
 unfold a0Y a0h a0U at h;simp at h;omega
theorem b1e {c:UInt8}{cs:By} : (cs.any fun x=>c.toNat==x.toNat)=decide (c∈cs):=by
 induction cs with
 | nil=>simp
 | cons d cs ih =>
  rw[List.any_cons,ih]
  by_cases h:c=d
  ·subst h;simp
  ·have:(c.toNat==d.toNat)=false:=by simp only[beq_eq_false_iff_ne];exact fun e=>h (UInt8.toNat_inj.1 e)
   rw[this];simp[h]
theorem a6f {cs:By}(hcs:∀x∈cs,a0Y (x.toNat:Int)=false){c:UInt8}(h1:a0Y (c.toNat:Int)=true)(h2:a0s (c.toNat:Int)=true):(c.toNat:Int)<128∧a2f cs c.toNat=false:=by
 have r1:=a6b h1;have r2:=a3a h2;refine⟨by omega,?_⟩;unfold a2f;rw[b1e];have hn:c∉cs:=fun hm=>by rw[hcs c hm]at h1;exact absurd h1 (by decide)
 have hs:a1v (c.toNat:Nat)=false:=by
  unfold a1v;simp only[Bool.or_eq_false_iff,beq_eq_false_iff_ne,Bool.and_eq_false_iff,decide_eq_false_iff_not];omega
 have h0:(c.toNat==0)=false:=by simp only[beq_eq_false_iff_ne];omega
 rw[hs,h0];simp[hn]
theorem a2S {cs:By}{c:UInt8}(h:a0h (c.toNat:Int)=true):(c.toNat:Int)<128∧a2f cs c.toNat=true:=by
 have r:=a2C h;refine⟨by omega,?_⟩;unfold a2f
 by_cases h0:(c.toNat:Int)=0
 ·have:(c.toNat==0)=true:=by simp;omega
  rw[this];simp
 ·rw[(a7s h h0).2];simp
theorem a9H {cs:By}{c:UInt8}(h:c∈cs):a2f cs c.toNat=true:=by
 unfold a2f;rw[b1e];simp[h]
theorem a7w {l:By}(h:a0t l false=false):∀c∈(a0k l).head?,a0h (c.toNat:Int)=true∨c∈([47,60,62,40,91,93,37]:By):=by
 intro c hc;obtain⟨h1,h2,h3,h4⟩:=(a1g l h).2 c hc;have:=a4S h1
 by_cases hw:a0h (c.toNat:Int)=true
 ·exact .inl hw
 ·right
  have hw':a0h (c.toNat:Int)=false:=by simpa using hw
  have hn:(c.toNat:Int)≠0∧(c.toNat:Int)≠9∧(c.toNat:Int)≠10∧(c.toNat:Int)≠12∧(c.toNat:Int)≠13∧(c.toNat:Int)≠32:=by
   unfold a0h at hw';simp at hw';omega
  simp only[List.mem_cons,List.not_mem_nil,or_false,←UInt8.toNat_inj];simp;omega
theorem b0i (cs:By)(hcs:∀x∈cs,a0Y (x.toNat:Int)=false)(hin:∀x∈([47,60,62,40,91,93,37]:By),x∈cs){l:By}(h:a0t l false=false):Lib.idxFunc (a2f cs) true (bs l)=if a0k l=[] then -1 else ((a0c l).length:Int):=by
 conv=>lhs;rw[←a0D (l:=l)]
 refine a2U _ _ _ (fun c hc=>?_) (fun c hc=>?_)
 ·obtain⟨h1,h2⟩:=(a1g l h).1 c hc
  exact a6f hcs h1 h2
 ·rcases a7w h c hc with hw|hm
  ·exact a2S hw
  ·refine⟨?_,a9H (hin c hm)⟩
   simp only[List.mem_cons,List.not_mem_nil,or_false,←UInt8.toNat_inj]at hm;simp at hm;omega
theorem b1A (W0:World)(hI:a3M W0)(l k:By)(hk:a0R l []=some k)(hpl:∀c∈l,a0s (c.toNat:Int)=true)(hl:l.length≤1000000)(w:World)(hE:Env W0 w):Calls Tryz.prog 132 #[.string (bs l)] w fun e w'=>e=.returned (.tuple #[.string (bs k),.nilIface])∧Below w.heap.size w w':=by
 go_enter Tryz.func132,Tryz.ntmps132;go_wp2_with fail
 refine(a8x W0 hI l k hk hpl hl w hE).mono ?_;rintro e w1⟨rfl,hb⟩;go_wp2_with fail
 go_ret2;exact⟨rfl,hb⟩
theorem a5L (W0:World)(hI:a3M W0)(w:World)(hE:Env W0 w)(b:Nat)(l k:By)(hL:a0v w b (47::l))(ho:a0t l false=false)(hk:a0R (a0c l) []=some k)(hl:l.length≤1000000)(hW0:W0.heap.size≤b) :
  Calls Tryz.prog 100 #[.pointer (some ⟨b,0,none⟩)] w fun e w'=>(∃pb,e=.returned (.tuple #[.pointer (some ⟨pb,0,none⟩),.nilIface])∧w'.heap[pb]?=some (.cells #[.string (bs k)] 71 (0,0))∧w.heap.size≤pb)∧a0v w' b (a0k l)∧w.grownBy w' (some b):=by
 obtain⟨c0,f0⟩:=hL.cell;have hbw:=hL.lt;have hpos:=a8U (bs l) nmCs (by decide) (by decide);rw[b0i nmCs (by decide) (by decide) ho]at hpos;have hwpl:∀c∈a0c l,a0s (c.toNat:Int)=true:=fun c hc=>((a1g l ho).1 c hc).2;have hwl:(a0c l).length≤l.length:=(List.takeWhile_sublist _).length_le;obtain⟨z,hz⟩:∃z,z=bs (47::l):=⟨_,rfl⟩;obtain⟨y,hy⟩:∃y,y=bs l:=⟨_,rfl⟩;have hzs:z.size=l.length+1:=by rw[hz,a0f];simp
 have hys:y.size=l.length:=by rw[hy,a0f]
 have hpre:=fun w=>a0L (47::l) [47] true (by simp) w;have hfwd:=fun w=>a2J (47::l) 1 w
 have hx1:y.extract 0 (a0c l).length=bs (a0c l):=by
  rw[hy,a3U];congr 1
  conv=>lhs;arg 2;rw[←a0D (l:=l)]
  simp
 have hx2:y.extract (a0c l).length y.size=bs (a0k l):=by
  rw[hys,hy,a2u];congr 1
  conv=>lhs;arg 2;rw[←a0D (l:=l)]
  simp
 rw[←hz]at c0 hpre hfwd;simp only[List.drop_succ_cons,List.drop_zero,←hy]at hfwd;rw[←hy]at hpos
 have hyR:a0k l=[]→y=bs (a0c l):=by
  intro e;rw[hy]
  conv=>lhs;rw[←a0D (l:=l),e,List.append_nil]
 have HyR:=xhd hyR;clear hyR;have hz0:((z.size:Int)==0)=false:=by rw[hzs];simp only[beq_eq_false_iff_ne];omega
 have hle:(a0c l).length≤y.size:=by omega
 have e47:(⟨#[47]⟩:ByteArray)=bs [47]:=rfl;have ecs:(⟨#[47,60,62,40,41,91,93,37]⟩:ByteArray)=bs nmCs:=rfl;obtain⟨HL,HI,HE,Hk,Hpl⟩:=xh5 hL hI hE hk hwpl;clear hL hI hE hk hwpl ho hz hy hzs hys;obtain⟨W,hW⟩:∃W,W=a0c l:=⟨_,rfl⟩;obtain⟨R,hR⟩:∃R,R=a0k l:=⟨_,rfl⟩;rw[←hW]at hpos hwl hx1 hx2 hle Hk Hpl HyR;rw[←hR]at hpos hx2 HyR⊢;clear hW hR;go_enter Tryz.func100,Tryz.ntmps100;go_wp2_with fail
 refine(hpre _).mono ?_;rintro e w1'⟨rfl,hw1⟩;subst w1';go_wp2_with fail
 refine(hfwd _).mono ?_;rintro e w1'⟨rfl,hw1⟩;subst w1';go_wp2_with fail
 refine(hpos _).mono ?_;rintro e w2⟨⟨v,rfl⟩,hb2⟩;have hL2:=HL.out.keep (a0o hb2) (by simp);obtain⟨c2,f2⟩:=hL2.cell;have hlt2:=hL2.lt;have HG2:=xhd ((a0o hb2).but (some b));have HL2:=xhd hL2;clear hpos hpre hfwd hL2 hb2
 by_cases hRn:R=[]
 ·subst hRn
  have hyW:y=bs W:=HyR.out rfl;subst hyW;simp only[if_true];clear hx1 hx2 hle;go_wp2_with fail
  refine(b1A W0 HI.out W k Hk.out Hpl.out (by omega) _ (by exact(HE.out.grown HG2.out (fun k hk=>by injection hk with hk;omega)).grown (a0e (xgr _ (some b)) _ _) (fun k hk=>by injection hk with hk;omega))).mono ?_;rintro e w3⟨rfl,hb3⟩;have HL3:=xhd ((HL2.out.set _).keep (a0o hb3) (by simp));have HG3:=xhd (a0u (a0e HG2.out _ _) ((a0o hb3).but (some b)));have hs3:=HG3.out.size;clear hb3;go_wp2_with fail
  go_ret2;exact⟨⟨w3.heap.size,rfl,heap_alloc_new w3 _,hs3⟩,HL3.out.keep (a0a (xgr _ none) _) (by simp),a0a HG3.out _⟩
 ·rw[if_neg hRn]
  clear HyR;go_wp2_with fail
  refine(b1A W0 HI.out W k Hk.out Hpl.out (by omega) _ (by exact(HE.out.grown HG2.out (fun k hk=>by injection hk with hk;omega)).grown (a0e (xgr _ (some b)) _ _) (fun k hk=>by injection hk with hk;omega))).mono ?_;rintro e w3⟨rfl,hb3⟩;have HL3:=xhd ((HL2.out.set _).keep (a0o hb3) (by simp));have HG3:=xhd (a0u (a0e HG2.out _ _) ((a0o hb3).but (some b)));have hs3:=HG3.out.size;clear hb3;go_wp2_with fail
  go_ret2;exact⟨⟨w3.heap.size,rfl,heap_alloc_new w3 _,hs3⟩,HL3.out.keep (a0a (xgr _ none) _) (by simp),a0a HG3.out _⟩
theorem b2R (l:By)(c:UInt8)(t:ByteArray)(h:c∉l)(hl:l.length≤1000000)(w:World):Calls Tryz.prog 195 #[.string (bs l),.string (bs [c]),.string t] w fun e w'=>e=.returned (.string (bs l))∧w'=w:=by
 have hi:=a7M l c (by omega) w;rw[b1O c l h]at hi;go_enter Tryz.func195,Tryz.ntmps195;go_wp2_with fail
 refine hi.mono ?_;rintro e w1⟨rfl,hw⟩;subst w1;go_wp2_with fail
 go_ret;exact⟨rfl,rfl⟩
theorem b7v (pf:By→Nat)(W0:World)(hpf:PFC pf W0)(l:By)(hok:a1q l)(hch:∀c∈l,(c.toNat:Int)≠44)(hl:l.length≤1000000)(w:World)(hE:Env W0 w):Calls Tryz.prog 139 #[.string (bs l)] w fun e w'=>e=.returned (.tuple #[.iface 68 (.float .f64 (pf l)),.nilIface])∧w.grownBy w' none:=by
 have hr:=b2R l 44 ⟨#[46]⟩ (fun hm=>hch 44 hm rfl) hl w;have e44:(⟨#[44]⟩:ByteArray)=bs [44]:=rfl;go_enter Tryz.func139,Tryz.ntmps139;go_wp2_with fail
 refine hr.mono ?_;rintro e w1⟨rfl,hw⟩;subst w1;go_wp2_with fail
 refine(hpf l w hok hE).mono ?_;rintro e w2⟨rfl,hg⟩;go_wp2_with fail
 go_ret2;exact⟨rfl,hg⟩
structure b0j (W0:World)(a b:Addr)(ca cb:Array Value):Prop where
 syn:W0.cell? ⟨2,0,Option.none⟩=some (.iface 233 (.pointer (some a)))
 ran:W0.cell? ⟨3,0,Option.none⟩=some (.iface 233 (.pointer (some b)))
 ne:a≠b
 ha:∃t,W0.heap[a.block]?=some (.cells ca t (0,0))
 hb:∃t,W0.heap[b.block]?=some (.cells cb t (0,0))
theorem b0j.env {W0 w:World}{a b:Addr}{ca cb:Array Value}(h:b0j W0 a b ca cb)(hE:Env W0 w):b0j w a b ca cb :=
 let ⟨ta,ha⟩:=h.ha
 let ⟨tb,hb⟩:=h.hb
 ⟨hE.cell h.syn,hE.cell h.ran,h.ne,⟨ta,(hE.2 _ (xgl ha)).trans ha⟩,⟨tb,(hE.2 _ (xgl hb)).trans hb⟩⟩
theorem a8a (w:World)(N:Nat)(f s:Value)(a b:Addr)(ca cb:Array Value)(hAB:b0j w a b ca cb)(h:w.heap[N]?=some (.cells #[f,s,.iface 233 (.pointer (some a))] 168 (0,0))) :
  Calls Tryz.prog 138 #[.iface 134 (.pointer (some ⟨N,0,none⟩))] w fun e w'=>e=.returned (.bool false)∧∃n,w'=w.drewN n:=by
 have c2:w.cell? ⟨N,2,none⟩=some (.iface 233 (.pointer (some a))):=by simp[World.cell?,h]
 have c3:=hAB.ran;have hta:∀w,(Instr.typeAssert (.iface 134 (.pointer (some ⟨N,0,none⟩))) 92 134 true).run Tryz.prog w=.ok (.tuple #[.pointer (some ⟨N,0,none⟩),.bool true]) w:=fun w=>by kernel_rfl
 have hi1:(Tryz.prog.info? 233).map (fun i=>i.comparable)=some true:=by kernel_rfl
 have hi2:(Tryz.prog.info? 235).map (fun i=>i.size)=some 1:=by kernel_rfl
 obtain⟨i,hi,hic⟩:=Option.map_eq_some_iff.1 hi1;obtain⟨j,hj,hjs⟩:=Option.map_eq_some_iff.1 hi2;obtain⟨ta,hha⟩:=hAB.ha;obtain⟨tb,hhb⟩:=hAB.hb;have heq:=run_eql_iface_ptr_other w Tryz.underlying92 Tryz.underlying233 hi hic hj (by omega) hAB.ne hha hhb;have heq2:∀n,(binOp .eql 92 (.iface 233 (.pointer (some a))) (.iface 233 (.pointer (some b)))).run Tryz.prog (w.drewN n)=.ok (.bool false) (w.drewN n):=fun n=>run_eql_iface_ptr_other (w.drewN n) Tryz.underlying92 Tryz.underlying233 hi hic hj (by omega) hAB.ne hha hhb;clear hAB h hha hhb;go_enter Tryz.func138,Tryz.ntmps138;go_wp2_with fail
 go_quiet (fail);go_wp2_with fail
 go_ret;exact⟨rfl,_,rfl⟩
def hexR (h:Int×By×By×Bool):Rd PV:=if h.1==0 then some (.str h.2.1,h.2.2.1,h.2.2.2) else none
theorem b8d (w:World)(b:Nat)(s:ByteArray)(p l:By)(deep:Int)(hd0:0≤deep)(hd1:deep≤49)(odd ends:Bool)(hR:RdAt w b s p l 0 deep odd ends)(hs:s.size≤1000000000)(oa:Bool)(hP:a0j false l odd=([],oa)) :
  Calls Tryz.prog 28 #[.pointer (some ⟨b,0,none⟩)] w fun e w'=>a4y w w' b s deep ends e none:=by
 have hbB:=hR.lt;have HR:=xhd hR;clear hR
 have hal:=a0Z w w.heap.size rfl (.cells #[.pointer (some ⟨b,0,none⟩)] 55 (0,0)) (.cells #[.int .i64 0,.int .i64 0,.int .i64 0,.float .f64 0,.string ⟨#[]⟩,.slice none 0 0,.slice none 0 0] 30 (0,0));have hmf:∀(fn:Fn) (first cap:Array Value) (w:World),(Instr.makeFunc fn first cap).run Tryz.prog w=.ok (.func fn first cap) w:=fun _ _ _ _=>rfl
 go_enter_defers Tryz.func28,Tryz.ntmps28
 go_wp2_with fail
 refine(a0y _ b s p l 0 deep odd ends (by exact(HR.out.alloc _).alloc _) (by omega)).mono ?_;rintro e w1⟨rfl,⟨p1,hR1⟩,hg1⟩;have hb1:=keep hg1 hal.1 (by simp;omega);have hb2:=keep hg1 hal.2 (by simp;omega);have hlt1:w.heap.size+1<w1.heap.size:=(xgl hb2);have HG1:=xhd (a0u (a0a (a0a (xgr w (some b)) _) _) hg1);obtain⟨HB1,HB2⟩:=xh2 hb1 hb2;have d0:w1.cell? ⟨w.heap.size,0,none⟩=some (.pointer (some ⟨b,0,none⟩)):=by simp[World.cell?,hb1]
 rw[hP]at hR1;simp only at hR1;obtain⟨c0,c1,c2,c3,c4,c5,cf⟩:=hR1.cells;have hsz1:=hR1.size;have HR1:=xhd hR1;have hnb1:¬w.heap.size=b:=by omega
 have hnb2:¬w.heap.size+1=b:=by omega
 have hp1:p1.length≤s.size:=by omega
 have Hsz1:=xhd hsz1;clear hg1 hal hb1 hb2 hR1 hsz1;go_wp2_with fail
 have hle:s.size≤p1.length:=by have:=Hsz1.out;simp at this;omega
 have HR2:=xhd (HR1.out.set3 (deep+1));have HG2:=xhd (a0e HG1.out 3 (.int .i64 (deep+1)));have hlt2:w.heap.size+1<(w1.setCell ⟨b,3,none⟩ (.int .i64 (deep+1))).heap.size:=by simp;omega
 have HB3:=xhd ((Below.heap_setCell w1 ⟨b,3,none⟩ (.int .i64 (deep+1)) w.heap.size (by simp;omega)).trans HB1.out);have HB4:=xhd ((Below.heap_setCell w1 ⟨b,3,none⟩ (.int .i64 (deep+1)) (w.heap.size+1) (by simp;omega)).trans HB2.out);obtain⟨w2,hw2⟩:∃w2,w2=w1.setCell ⟨b,3,none⟩ (.int .i64 (deep+1)):=⟨_,rfl⟩;rw[←hw2]at HR2 HG2 HB3 HB4 hlt2⊢;clear hw2 HR1 HG1 HB1 HB2 c0 c1 c2 c3 c4 c5 cf d0 hlt1;obtain⟨c0,c1,c2,c3,c4,c5,cf⟩:=HR2.out.cells;have d0:w2.cell? ⟨w.heap.size,0,none⟩=some (.pointer (some ⟨b,0,none⟩)):=by simp[World.cell?,HB3.out]
 go_quiet ((go_at_call 52;with_reducible first|exact qad _|exact qbd _));go_wp2_with fail
 cases ends
 ·(refine a0r 14 (by kernel_rfl) (by kernel_rfl) ?_;simp only[List.take_succ_cons,List.take_zero,List.drop_succ_cons,List.drop_zero];(repeat (go_big_quiet_step ((go_at_call 52;with_reducible first|exact qad _|exact qbd _))));refine wpQuiet_nil ?_;intro _ hwt;obtain⟨nt,hwt'⟩:=hwt;subst hwt';go_wp2_with fail)
  refine(a1h _ b s p1 [] 0 (deep+1) oa (decide (1<deep+1)) (by exact(HR2.out.drewN _).set5 _) 1).mono ?_;rintro e w3⟨rfl,hR3,hg3'⟩;have hg3:w2.grownBy w3 (some b):=a0u (a0e (a0b (xgr w2 (some b)) _) _ _) hg3';clear hg3';unfold a1t;have hz3:=keep hg3 HB4.out (by simp;omega);have hx3:=keep hg3 HB3.out (by simp;omega);have HG3:=xhd (a0u HG2.out (show w2.grownBy w3 (some b) from⟨hg3.os,hg3.tape,hg3.output,hg3.size,hg3.block⟩));have hlt3:w.heap.size+1<w3.heap.size:=(xgl hz3);obtain⟨z0,z1,z2,z3,z4,z5,z6,zf⟩:=a0q hz3;obtain⟨HZ3,HX3,HR3⟩:=xh3 hz3 hx3 hR3;clear hR3
  clear hz3 hx3 hg3 c0 c1 c2 c3 c4 c5 cf d0 HG2 HR2 HB3 HB4;go_wp2_with fail
  refine a1w HX3.out HZ3.out HR3.out HG3.out hbB hd0 (by omega) rfl ?_;intro w' g1 g2 g3 g4;exact⟨_,rfl,⟨_,_,_,_,_,_,_,_,_,_,_,rfl⟩,⟨p1,[],oa,a2I 0 1,(decide (1<deep+1)),a1P _ _ (by decide),g1⟩,g2⟩
 ·(refine a0r 14 (by kernel_rfl) (by kernel_rfl) ?_;simp only[List.take_succ_cons,List.take_zero,List.drop_succ_cons,List.drop_zero];(repeat (go_big_quiet_step ((go_at_call 52;with_reducible first|exact qad _|exact qbd _))));refine wpQuiet_nil ?_;intro _ hwt;obtain⟨nt,hwt'⟩:=hwt;subst hwt';go_wp2_with fail)
  refine(a1h _ b s p1 [] 0 (deep+1) oa (true) (by exact(HR2.out.drewN _).set5 _) 1).mono ?_;rintro e w3⟨rfl,hR3,hg3'⟩;have hg3:w2.grownBy w3 (some b):=a0u (a0e (a0b (xgr w2 (some b)) _) _ _) hg3';clear hg3';unfold a1t;have hz3:=keep hg3 HB4.out (by simp;omega);have hx3:=keep hg3 HB3.out (by simp;omega);have HG3:=xhd (a0u HG2.out (show w2.grownBy w3 (some b) from⟨hg3.os,hg3.tape,hg3.output,hg3.size,hg3.block⟩));have hlt3:w.heap.size+1<w3.heap.size:=(xgl hz3);obtain⟨z0,z1,z2,z3,z4,z5,z6,zf⟩:=a0q hz3;obtain⟨HZ3,HX3,HR3⟩:=xh3 hz3 hx3 hR3;clear hR3
  clear hz3 hx3 hg3 c0 c1 c2 c3 c4 c5 cf d0 HG2 HR2 HB3 HB4;go_wp2_with fail
  refine a1w HX3.out HZ3.out HR3.out HG3.out hbB hd0 (by omega) rfl ?_;intro w' g1 g2 g3 g4;exact⟨_,rfl,⟨_,_,_,_,_,_,_,_,_,_,_,rfl⟩,⟨p1,[],oa,a2I 0 1,(true),a1P _ _ (by decide),g1⟩,g2⟩
theorem b8b (w:World)(b:Nat)(s:ByteArray)(p l:By)(deep:Int)(hd0:0≤deep)(hd1:deep≤49)(odd ends:Bool)(hR:RdAt w b s p l 0 deep odd ends)(hs:s.size≤1000000000)(oa:Bool)(c:UInt8)(la:By)(hP:a0j false l odd=(c::la,oa))(h40:((c.toNat:Int)==40)=false)(hd:is2 (c::la) 60=false)(h60:((c.toNat:Int)==60)=true) :
  Calls Tryz.prog 28 #[.pointer (some ⟨b,0,none⟩)] w fun e w'=>a4y w w' b s deep ends e (hexR (hexF la false 0 [] oa)):=by
 have hbB:=hR.lt;have HR:=xhd hR;clear hR
 have hal:=a0Z w w.heap.size rfl (.cells #[.pointer (some ⟨b,0,none⟩)] 55 (0,0)) (.cells #[.int .i64 0,.int .i64 0,.int .i64 0,.float .f64 0,.string ⟨#[]⟩,.slice none 0 0,.slice none 0 0] 30 (0,0));have hmf:∀(fn:Fn) (first cap:Array Value) (w:World),(Instr.makeFunc fn first cap).run Tryz.prog w=.ok (.func fn first cap) w:=fun _ _ _ _=>rfl
 go_enter_defers Tryz.func28,Tryz.ntmps28
 go_wp2_with fail
 refine(a0y _ b s p l 0 deep odd ends (by exact(HR.out.alloc _).alloc _) (by omega)).mono ?_;rintro e w1⟨rfl,⟨p1,hR1⟩,hg1⟩;have hb1:=keep hg1 hal.1 (by simp;omega);have hb2:=keep hg1 hal.2 (by simp;omega);have hlt1:w.heap.size+1<w1.heap.size:=(xgl hb2);have HG1:=xhd (a0u (a0a (a0a (xgr w (some b)) _) _) hg1);obtain⟨HB1,HB2⟩:=xh2 hb1 hb2;have d0:w1.cell? ⟨w.heap.size,0,none⟩=some (.pointer (some ⟨b,0,none⟩)):=by simp[World.cell?,hb1]
 rw[hP]at hR1;simp only at hR1;obtain⟨c0,c1,c2,c3,c4,c5,cf⟩:=hR1.cells;have hsz1:=hR1.size;have HR1:=xhd hR1;have hnb1:¬w.heap.size=b:=by omega
 have hnb2:¬w.heap.size+1=b:=by omega
 have hp1:p1.length≤s.size:=by omega
 have Hsz1:=xhd hsz1;clear hg1 hal hb1 hb2 hR1 hsz1;go_wp2_with fail
 have hlt:p1.length<s.size:=by have:=Hsz1.out;simp at this;omega
 obtain⟨hk,hget⟩:=HR1.out.head;have hle:¬s.size≤p1.length:=by omega
 have HR2:=xhd (HR1.out.set3 (deep+1));have HG2:=xhd (a0e HG1.out 3 (.int .i64 (deep+1)));have hlt2:w.heap.size+1<(w1.setCell ⟨b,3,none⟩ (.int .i64 (deep+1))).heap.size:=by simp;omega
 have HB3:=xhd ((Below.heap_setCell w1 ⟨b,3,none⟩ (.int .i64 (deep+1)) w.heap.size (by simp;omega)).trans HB1.out);have HB4:=xhd ((Below.heap_setCell w1 ⟨b,3,none⟩ (.int .i64 (deep+1)) (w.heap.size+1) (by simp;omega)).trans HB2.out);obtain⟨w2,hw2⟩:∃w2,w2=w1.setCell ⟨b,3,none⟩ (.int .i64 (deep+1)):=⟨_,rfl⟩;rw[←hw2]at HR2 HG2 HB3 HB4 hlt2⊢;clear hw2 HR1 HG1 HB1 HB2 c0 c1 c2 c3 c4 c5 cf d0 hlt1;obtain⟨c0,c1,c2,c3,c4,c5,cf⟩:=HR2.out.cells;have d0:w2.cell? ⟨w.heap.size,0,none⟩=some (.pointer (some ⟨b,0,none⟩)):=by simp[World.cell?,HB3.out]
 go_quiet ((go_at_call 52;with_reducible first|exact qad _|exact qbd _));go_wp2_with fail
 go_quiet ((go_at_call 52;with_reducible first|exact qad _|exact qbd _));go_wp2_with fail
 refine(a4g _ b s p1 (c::la) 0 (deep+1) oa ends (by exact HR2.out.drewN _) (by omega) ⟨#[60,60]⟩ (by decide)).mono ?_;rintro e w2'⟨rfl,n2,hw2'⟩;have hpre:(⟨#[60,60]⟩:ByteArray).data.toList.isPrefixOf (c::la)=is2 (c::la) 60:=pre2 60 (c::la);rw[hpre,hd];clear hpre;subst w2';go_wp2_with fail
 go_quiet ((go_at_call 52;with_reducible first|exact qad _|exact qbd _));go_wp2_with fail
 refine(b4g _ b s p1 la c 0 (deep+1) oa ends (by exact HR2.out.drewN _) (by omega)).mono ?_;intro e w3 hP3;obtain⟨hh,hhe⟩:∃hh,hh=hexF la false 0 [] oa:=⟨_,rfl⟩;rw[←hhe]at hP3;obtain⟨h1,t,r,o2⟩:=hh;have Hhe:=xhd hhe;clear hhe
 obtain⟨rfl,⟨p3,hR3⟩,hg3⟩:=hP3;simp only at hR3;have hz3:=keep hg3 HB4.out (by simp;omega);have hx3:=keep hg3 HB3.out (by simp;omega);have HG3:=xhd (a0u HG2.out (show w2.grownBy w3 (some b) from⟨hg3.os,hg3.tape,hg3.output,hg3.size,hg3.block⟩));have hlt3:w.heap.size+1<w3.heap.size:=(xgl hz3);obtain⟨z0,z1,z2,z3,z4,z5,z6,zf⟩:=a0q hz3;obtain⟨HZ3,HX3,HR3⟩:=xh3 hz3 hx3 hR3;clear hR3
 clear hz3 hx3 hg3 c0 c1 c2 c3 c4 c5 cf d0 HG2 HR2 HB3 HB4;go_wp2_with fail
 refine a1w HX3.out HZ3.out HR3.out HG3.out hbB hd0 (by omega) rfl ?_;intro w' g1 g2 g3 g4;rw[←Hhe.out];unfold hexR;simp only
 by_cases h0:h1=0
 ·rw[if_pos (by simpa using h0)]
  rw[if_pos h0]at g1;exact⟨nilS,nilS,fun _=>False,rfl,IsV.plain (by trivial),fun k hk=>hk.elim,⟨p3,g1⟩,g2⟩
 ·rw[if_neg (by simpa using h0)]
  rw[if_neg h0]at g1;exact⟨_,rfl,⟨_,_,_,_,_,_,_,_,_,_,_,rfl⟩,⟨p3,r,o2,a2I 0 h1,ends,a1P _ _ h0,g1⟩,g2⟩
theorem b5u (w:World)(b:Nat)(s:ByteArray)(p l:By)(deep:Int)(hd0:0≤deep)(hd1:deep≤49)(odd ends:Bool)(hR:RdAt w b s p l 0 deep odd ends)(hs:s.size≤1000000000)(oa:Bool)(c:UInt8)(la:By)(hP:a0j false l odd=(c::la,oa))(h40:((c.toNat:Int)==40)=false)(hd:is2 (c::la) 60=false)(h60:((c.toNat:Int)==60)=false)(h47:((c.toNat:Int)==47)=true) :
  Calls Tryz.prog 28 #[.pointer (some ⟨b,0,none⟩)] w fun e w'=>a4y w w' b s deep ends e ((a0R (a0c la) []).map fun k=>(.name k,a0k la,a0t la oa)):=by
 have hbB:=hR.lt;have HR:=xhd hR;clear hR
 have hal:=a0Z w w.heap.size rfl (.cells #[.pointer (some ⟨b,0,none⟩)] 55 (0,0)) (.cells #[.int .i64 0,.int .i64 0,.int .i64 0,.float .f64 0,.string ⟨#[]⟩,.slice none 0 0,.slice none 0 0] 30 (0,0));have hmf:∀(fn:Fn) (first cap:Array Value) (w:World),(Instr.makeFunc fn first cap).run Tryz.prog w=.ok (.func fn first cap) w:=fun _ _ _ _=>rfl
 go_enter_defers Tryz.func28,Tryz.ntmps28
 go_wp2_with fail
 refine(a0y _ b s p l 0 deep odd ends (by exact(HR.out.alloc _).alloc _) (by omega)).mono ?_;rintro e w1⟨rfl,⟨p1,hR1⟩,hg1⟩;have hb1:=keep hg1 hal.1 (by simp;omega);have hb2:=keep hg1 hal.2 (by simp;omega);have hlt1:w.heap.size+1<w1.heap.size:=(xgl hb2);have HG1:=xhd (a0u (a0a (a0a (xgr w (some b)) _) _) hg1);obtain⟨HB1,HB2⟩:=xh2 hb1 hb2;have d0:w1.cell? ⟨w.heap.size,0,none⟩=some (.pointer (some ⟨b,0,none⟩)):=by simp[World.cell?,hb1]
 rw[hP]at hR1;simp only at hR1;obtain⟨c0,c1,c2,c3,c4,c5,cf⟩:=hR1.cells;have hsz1:=hR1.size;have HR1:=xhd hR1;have hnb1:¬w.heap.size=b:=by omega
 have hnb2:¬w.heap.size+1=b:=by omega
 have hp1:p1.length≤s.size:=by omega
 have Hsz1:=xhd hsz1;clear hg1 hal hb1 hb2 hR1 hsz1;go_wp2_with fail
 have hlt:p1.length<s.size:=by have:=Hsz1.out;simp at this;omega
 obtain⟨hk,hget⟩:=HR1.out.head;have hle:¬s.size≤p1.length:=by omega
 have HR2:=xhd (HR1.out.set3 (deep+1));have HG2:=xhd (a0e HG1.out 3 (.int .i64 (deep+1)));have hlt2:w.heap.size+1<(w1.setCell ⟨b,3,none⟩ (.int .i64 (deep+1))).heap.size:=by simp;omega
 have HB3:=xhd ((Below.heap_setCell w1 ⟨b,3,none⟩ (.int .i64 (deep+1)) w.heap.size (by simp;omega)).trans HB1.out);have HB4:=xhd ((Below.heap_setCell w1 ⟨b,3,none⟩ (.int .i64 (deep+1)) (w.heap.size+1) (by simp;omega)).trans HB2.out);obtain⟨w2,hw2⟩:∃w2,w2=w1.setCell ⟨b,3,none⟩ (.int .i64 (deep+1)):=⟨_,rfl⟩;rw[←hw2]at HR2 HG2 HB3 HB4 hlt2⊢;clear hw2 HR1 HG1 HB1 HB2 c0 c1 c2 c3 c4 c5 cf d0 hlt1;obtain⟨c0,c1,c2,c3,c4,c5,cf⟩:=HR2.out.cells;have d0:w2.cell? ⟨w.heap.size,0,none⟩=some (.pointer (some ⟨b,0,none⟩)):=by simp[World.cell?,HB3.out]
 go_quiet ((go_at_call 52;with_reducible first|exact qad _|exact qbd _));go_wp2_with fail
 go_quiet ((go_at_call 52;with_reducible first|exact qad _|exact qbd _));go_wp2_with fail
 refine(a4g _ b s p1 (c::la) 0 (deep+1) oa ends (by exact HR2.out.drewN _) (by omega) ⟨#[60,60]⟩ (by decide)).mono ?_;rintro e w2'⟨rfl,n2,hw2'⟩;have hpre:(⟨#[60,60]⟩:ByteArray).data.toList.isPrefixOf (c::la)=is2 (c::la) 60:=pre2 60 (c::la);rw[hpre,hd];clear hpre;subst w2';go_wp2_with fail
 go_quiet ((go_at_call 52;with_reducible first|exact qad _|exact qbd _));go_wp2_with fail
 go_quiet ((go_at_call 52;with_reducible first|exact qad _|exact qbd _));go_wp2_with fail
 refine(a9K _ b s p1 la c 0 (deep+1) oa ends (by exact HR2.out.drewN _) (by omega)).mono ?_;intro e w3 hP3;obtain⟨hn,hne⟩:∃hn,hn=a0R (a0c la) []:=⟨_,rfl⟩;rw[←hne]at hP3;have Hne:=xhd hne;clear hne
 obtain⟨rfl,⟨p3,hR3⟩,hg3⟩:=hP3;have hz3:=keep hg3 HB4.out (by simp;omega);have hx3:=keep hg3 HB3.out (by simp;omega);have HG3:=xhd (a0u HG2.out (show w2.grownBy w3 (some b) from⟨hg3.os,hg3.tape,hg3.output,hg3.size,hg3.block⟩));have hlt3:w.heap.size+1<w3.heap.size:=(xgl hz3);obtain⟨z0,z1,z2,z3,z4,z5,z6,zf⟩:=a0q hz3;obtain⟨HZ3,HX3,HR3⟩:=xh3 hz3 hx3 hR3;clear hR3
 clear hz3 hx3 hg3 c0 c1 c2 c3 c4 c5 cf d0 HG2 HR2 HB3 HB4;go_wp2_with fail
 refine a1w HX3.out HZ3.out HR3.out HG3.out hbB hd0 (by omega) rfl ?_;intro w' g1 g2 g3 g4;rw[←Hne.out]
 cases hn with
 | none=>exact⟨_,rfl,⟨_,_,_,_,_,_,_,_,_,_,_,rfl⟩,⟨p3,_,_,_,ends,a1P _ _ (by decide),g1⟩,g2⟩
 | some k=>exact⟨nilS,nilS,fun _=>False,rfl,IsV.plain (by trivial),fun k hk=>hk.elim,⟨p3,g1⟩,g2⟩
theorem b5s (w:World)(b:Nat)(s:ByteArray)(p l:By)(deep:Int)(hd1:50≤deep)(hd2:deep≤50)(odd ends:Bool)(hR:RdAt w b s p l 0 deep odd ends)(hs:s.size≤1000000000) :
  Calls Tryz.prog 28 #[.pointer (some ⟨b,0,none⟩)] w fun e w'=>a4y w w' b s deep ends e none:=by
 obtain⟨la,oa,hP⟩:∃la oa,a0j false l odd=(la,oa):=⟨_,_,rfl⟩;have hbB:=hR.lt;have HR:=xhd hR;clear hR
 have hal:=a0Z w w.heap.size rfl (.cells #[.pointer (some ⟨b,0,none⟩)] 55 (0,0)) (.cells #[.int .i64 0,.int .i64 0,.int .i64 0,.float .f64 0,.string ⟨#[]⟩,.slice none 0 0,.slice none 0 0] 30 (0,0));have hmf:∀(fn:Fn) (first cap:Array Value) (w:World),(Instr.makeFunc fn first cap).run Tryz.prog w=.ok (.func fn first cap) w:=fun _ _ _ _=>rfl
 go_enter_defers Tryz.func28,Tryz.ntmps28
 go_wp2_with fail
 refine(a0y _ b s p l 0 deep odd ends (by exact(HR.out.alloc _).alloc _) (by omega)).mono ?_;rintro e w1⟨rfl,⟨p1,hR1⟩,hg1⟩;have hb1:=keep hg1 hal.1 (by simp;omega);have hb2:=keep hg1 hal.2 (by simp;omega);have hlt1:w.heap.size+1<w1.heap.size:=(xgl hb2);have HG1:=xhd (a0u (a0a (a0a (xgr w (some b)) _) _) hg1);obtain⟨HB1,HB2⟩:=xh2 hb1 hb2;have d0:w1.cell? ⟨w.heap.size,0,none⟩=some (.pointer (some ⟨b,0,none⟩)):=by simp[World.cell?,hb1]
 rw[hP]at hR1;simp only at hR1;obtain⟨c0,c1,c2,c3,c4,c5,cf⟩:=hR1.cells;have hsz1:=hR1.size;have HR1:=xhd hR1;have hnb1:¬w.heap.size=b:=by omega
 have hnb2:¬w.heap.size+1=b:=by omega
 have hp1:p1.length≤s.size:=by omega
 have Hsz1:=xhd hsz1;clear hg1 hal hb1 hb2 hR1 hsz1;go_wp2_with fail
 have HR2:=xhd (HR1.out.set3 (deep+1));have HG2:=xhd (a0e HG1.out 3 (.int .i64 (deep+1)));have hlt2:w.heap.size+1<(w1.setCell ⟨b,3,none⟩ (.int .i64 (deep+1))).heap.size:=by simp;omega
 have HB3:=xhd ((Below.heap_setCell w1 ⟨b,3,none⟩ (.int .i64 (deep+1)) w.heap.size (by simp;omega)).trans HB1.out);have HB4:=xhd ((Below.heap_setCell w1 ⟨b,3,none⟩ (.int .i64 (deep+1)) (w.heap.size+1) (by simp;omega)).trans HB2.out);obtain⟨w2,hw2⟩:∃w2,w2=w1.setCell ⟨b,3,none⟩ (.int .i64 (deep+1)):=⟨_,rfl⟩;rw[←hw2]at HR2 HG2 HB3 HB4 hlt2⊢;clear hw2 HR1 HG1 HB1 HB2 c0 c1 c2 c3 c4 c5 cf d0 hlt1;obtain⟨c0,c1,c2,c3,c4,c5,cf⟩:=HR2.out.cells;have d0:w2.cell? ⟨w.heap.size,0,none⟩=some (.pointer (some ⟨b,0,none⟩)):=by simp[World.cell?,HB3.out]
 refine(a1h _ b s p1 la 0 (deep+1) oa ends (by exact HR2.out) 2).mono ?_;rintro e w3⟨rfl,hR3,hg3⟩;unfold a1t;have hz3:=keep hg3 HB4.out (by simp;omega);have hx3:=keep hg3 HB3.out (by simp;omega);have HG3:=xhd (a0u HG2.out (show w2.grownBy w3 (some b) from⟨hg3.os,hg3.tape,hg3.output,hg3.size,hg3.block⟩));have hlt3:w.heap.size+1<w3.heap.size:=(xgl hz3);obtain⟨z0,z1,z2,z3,z4,z5,z6,zf⟩:=a0q hz3;obtain⟨HZ3,HX3,HR3⟩:=xh3 hz3 hx3 hR3;clear hR3
 clear hz3 hx3 hg3 c0 c1 c2 c3 c4 c5 cf d0 HG2 HR2 HB3 HB4;go_wp2_with fail
 refine a1w HX3.out HZ3.out HR3.out HG3.out hbB (by omega) (by omega) rfl ?_;intro w' g1 g2 g3 g4;exact⟨_,rfl,⟨_,_,_,_,_,_,_,_,_,_,_,rfl⟩,⟨p1,_,oa,a2I 0 2,ends,a1P _ _ (by decide),g1⟩,g2⟩
theorem a4n {N r:Nat}(hN:N≠0)(hr1:1≤r)(hr:r≤numD N):10^(r-1)≤pdN N r∧numD (pdN N r)=r:=by
 have hpd:=a2y (N:=N) (r:=r)
 have hle:10^(r-1)≤pdN N r:=by
  unfold pdN;rw[if_pos (by omega)];rw[Nat.le_div_iff_mul_le (Nat.pow_pos (by decide)),←Nat.pow_add];have:=a2W N hN
  rwa [show r-1+(numD N-r)=numD N-1 by omega]
 refine⟨hle,?_⟩;have:=a3Y (m:=r-1) hle (by rwa [show r-1+1=r by omega]);omega
def a4a (N r i:Nat):Prop:=i≤r∧pdN N r+1=(pdN N i+1)*10^(r-i)
theorem a4a.start (N r:Nat):a4a N r r:=⟨Nat.le_refl _,by simp⟩
theorem a4a.step {A:By}{N r i:Nat}(h:a4a N r (i+1))(hl:numD N≤A.length)(hd:isDs (A.take (numD N)))(hv:dv (A.take (numD N))=N)(hr:r≤numD N)(h9:¬(A.getD i 0).toNat<57):a4a N r i:=by
 obtain⟨h1,h2⟩:=h;obtain⟨e1,e2,e3⟩:=a2x hl hd hv (r:=i) (by omega);refine⟨by omega,?_⟩;rw[h2,e1,show r-i=(r-(i+1))+1 by omega,Nat.pow_succ];have:10*pdN N i+((A.getD i 0).toNat-48)+1=(pdN N i+1)*10:=by omega
 rw[this,Nat.mul_assoc,Nat.mul_comm 10]
theorem a4a.up {w':World}{b:Nat}{A:By}{N r i:Nat}{dp:Int}{neg tr:Bool}(h:a4a N r (i+1))(hN:N≠0)(hl:numD N≤800)(hA:A.length=800)(hd:isDs (A.take (numD N)))(hv:dv (A.take (numD N))=N)(hr:r≤numD N)(h9:(A.getD i 0).toNat<57){c:UInt8}(hc:c.toNat=(A.getD i 0).toNat+1)
  (hD:a0O w' b (A.set i c) (i+1) dp neg tr)(hlt:r<numD N)(hru:ruB N r false=true):DecN w' b (rdN N r) (rdP N r dp) neg tr:=by
 obtain⟨h1,h2⟩:=h;obtain⟨e1,e2,e3⟩:=a2x (by omega) hd hv (r:=i) (by omega);have hle:=(a4n hN (r:=i+1) (by omega) (by omega)).1;have hpr:=(a4n hN (r:=r) (by omega) hr).2;have hsm:=a2y (N:=N) (r:=i);obtain⟨X,hX⟩:∃X,X=pdN N (i+1)+1:=⟨_,rfl⟩;rw[←hX]at h2;have hX10:X%10≠0:=by omega
 have hX0:X≠0:=by omega
 have hXlt:X<10^(i+1):=by rw[Nat.pow_succ];omega
 have hXn:numD X=i+1:=a3Y (by rw[Nat.add_sub_cancel]at hle;omega) hXlt;obtain⟨s1,s2⟩:=a2g (r-(i+1)) X hX0;have hrd:rdN N r=X:=by unfold rdN;rw[if_pos hlt,hru,if_pos rfl,h2,s1,a2h hX10]
 have hrp:rdP N r dp=dp:=by unfold rdP;rw[if_pos hlt,hru,if_pos rfl,h2,s2,hXn,hpr];omega
 rw[hrd,hrp]
 have htk:(A.set i c).take (i+1)=A.take i++[c]:=by
  rw[List.take_add_one,List.take_set_of_le (Nat.le_refl i),List.getElem?_set_self (by omega)];rfl
 refine⟨by rw[hXn];omega,_,by rw[hXn];exact hD,?_,?_⟩
 ·rw[hXn,htk]
  refine a5F ?_ (by omega) (by omega);intro x hx;refine hd x ?_;have:A.take i=(A.take (numD N)).take i:=by rw[List.take_take,Nat.min_eq_left (by omega)]
  rw[this]at hx;exact List.mem_of_mem_take hx
 ·rw[hXn,htk,a6V]
  have hpi:=b2u (A:=A) (N:=N) (r:=i) (by omega) hd hv;unfold pd at hpi;rw[if_pos (by omega)]at hpi;rw[hpi];omega
theorem a4a.all {w':World}{b:Nat}{A:By}{N r:Nat}{dp:Int}{neg tr:Bool}(h:a4a N r 0)(hN:N≠0)(hr1:1≤r)(hA:A.length=800)(hD:a0O w' b (A.set 0 49) 1 (dp+1) neg tr)(hlt:r<numD N)(hru:ruB N r false=true):DecN w' b (rdN N r) (rdP N r dp) neg tr:=by
 obtain⟨h1,h2⟩:=h;rw[a5k]at h2;have hpr:=(a4n hN (r:=r) (by omega) (by omega)).2;obtain⟨s1,s2⟩:=a2g (r-0) (0+1) (by decide);have h11:a0V (0+1)=1:=a2h (by decide);have hn1:numD (0+1)=1:=a3Y (m:=0) (by decide) (by decide);have hrd:rdN N r=1:=by unfold rdN;rw[if_pos hlt,hru,if_pos rfl,h2,s1,h11]
 have hrp:rdP N r dp=dp+1:=by unfold rdP;rw[if_pos hlt,hru,if_pos rfl,h2,s2,hn1,hpr];omega
 rw[hrd,hrp];have h1n:numD 1=1:=hn1
 have htk:(A.set 0 49).take 1=[49]:=by
  cases A with
  | nil=>simp at hA
  | cons x xs=>rfl
 refine⟨by rw[h1n];omega,_,by rw[h1n];exact hD,?_,?_⟩
 ·rw[h1n,htk];intro x hx;simp at hx;subst hx;decide
 ·rw[h1n,htk];rfl
theorem b6t {w':World}{b:Nat}{A:By}{N r:Nat}{dp:Int}{neg tr:Bool}(hN:N≠0)(hr1:1≤r)(hA:A.length=800)(hl:numD N≤800)(hd:isDs (A.take (numD N)))(hv:dv (A.take (numD N))=N)(hlt:r<numD N)(hru:ruB N r false=false)
  (hD:a0O w' b A (a1J A r) dp neg tr):DecN w' b (rdN N r) (rdP N r dp) neg tr:=by
 obtain⟨hle,hpr⟩:=a4n hN (r:=r) hr1 (by omega);have hpi:=b2u (A:=A) (N:=N) (r:=r) (by omega) hd hv;unfold pd at hpi;rw[if_pos (by omega)]at hpi;have hp0:pdN N r≠0:=by have:=Nat.pow_pos (n:=r-1) (show 0<10 by decide);omega
 have hds:isDs (A.take r):=by
  intro x hx;refine hd x ?_;have:A.take r=(A.take (numD N)).take r:=by rw[List.take_take,Nat.min_eq_left (by omega)]
  rw[this]at hx;exact List.mem_of_mem_take hx
 obtain⟨t1,t2⟩:=a3I r A (by omega) hds (by rw[hpi];exact hp0) (by rw[hpi];exact hpr);rw[hpi]at t1 t2;have hrd:rdN N r=a0V (pdN N r):=by unfold rdN;rw[if_pos hlt,hru];rfl
 have hrp:rdP N r dp=dp:=by unfold rdP;rw[if_pos hlt,hru];simp
 rw[hrd,hrp];have:=a2s A r;refine⟨by rw[←t1];omega,A,by rw[←t1];exact hD,?_,by rw[←t1];exact t2⟩;rw[←t1];intro x hx;refine hds x ?_;have e:A.take (a1J A r)=(A.take r).take (a1J A r):=by rw[List.take_take,Nat.min_eq_left (by omega)]
 rw[e]at hx;exact List.mem_of_mem_take hx
structure a1i (w0 w:World)(v0 v:Value)(B:Nat)(l:By):Prop where
 own:OwnB B w v l
 gr:w0.grownBy w v0.ownBlock
 blk:v.ownBlock=v0.ownBlock∨∃j,v.ownBlock=some j∧w0.heap.size≤j
 base:B≤w0.heap.size
theorem a1i.start {w:World}{v:Value}{B:Nat}{l:By}(h:OwnB B w v l)(hB:B≤w.heap.size):a1i w w v v B l:=⟨h,xgr _ _,.inl rfl,hB⟩
theorem a1i.push {w0 w w':World}{v0 v v':Value}{B:Nat}{l l':By}{o:Obj}(h:a1i w0 w v0 v B l)(h1:OwnB B w' v' l')(h2:(w.alloc o).grownBy w' v.ownBlock)(h3:v'.ownBlock=v.ownBlock∨v'.ownBlock=some (w.alloc o).heap.size):a1i w0 w' v0 v' B l':=by
 have hs:=h.gr.size;refine⟨h1,(a0a h.gr o).andThen h2 (fun j hj=>?_),?_,h.base⟩
 ·rcases h.blk with e|⟨k,e,hk⟩
  ·right;rw[←e];exact hj
  ·left;rw[e]at hj;injection hj with hj;omega
 ·rcases h3 with e|e
  ·rcases h.blk with e2|⟨k,e2,hk⟩
   ·exact .inl (e.trans e2)
   ·exact .inr ⟨k,e.trans e2,hk⟩
  ·exact .inr ⟨_,e,by simp;omega⟩
theorem a1i.cell {w0 w:World}{v0 v:Value}{B sb i:Nat}{l:By}(h:a1i w0 w v0 v B l)(hsb:sb<w0.heap.size)(hne:v0.ownBlock≠some sb):w.cell? ⟨sb,i,none⟩=w0.cell? ⟨sb,i,none⟩ :=
 World.cell?_of_block (h.gr.block sb hsb (fun e=>hne e.symm))
theorem a0m {w:World}{ops:Array Oper}{rest:List Oper}{o:Oper}{a:Act}{Q:Exit→Act→World→Prop}(hgd:o.guard=Option.none)(s x:Operand)
  (ho:o.op=.call { callee:=.builtin .append,args:=#[s,x],argTypes:=#[84,84] })(B:Nat)(v:Value)(l:By)(c:UInt8)(n:Int)(hs:a.eval s=v)(hown:OwnB B w v l)
  (ad:Addr)(hx:a.eval x=.slice (some ad) 1 1)(hcell:w.cell? ad=some (.int .u8 n))(hn:n=(c.toNat:Int))(hl:l.length+1≤140737488355328)(hB:B≤w.heap.size)
  (h:∀v' w',OwnB B w' v' (l++[c])→w.grownBy w' v.ownBlock→(v'.ownBlock=v.ownBlock∨v'.ownBlock=some w.heap.size)→wpList Tryz.prog ops Q rest (a.put o.dst v') w'):wpList Tryz.prog ops Q (o::rest) a w:=by
 obtain⟨i,hi,hz0,hz1,hz2⟩:=info_parts Tryz.info5;subst hn;refine wpList_append_own_at w hgd s x 84 ho B 5 i (.int .u8 0) 1 1 Tryz.underlying84 hi hz0 hz1 hz2 rfl (by decide) v l.length _ hs hown ad 1 1 [.int .u8 (c.toNat:Int)] hx rfl ?_ ?_ (by unfold maxLen;omega) (by omega) hB ?_
 ·intro j u hj
  match j,hj with
  | 0,hj=>simp at hj;subst hj;rw[show ad.add 0=ad from by simp[Addr.add]];exact hcell
  | j+1,hj=>simp at hj
 ·intro u hu;simp at hu;subst hu;rfl
 ·intro v' w' h1 h2 _ h4
  exact h v' w' (by unfold OwnB;simpa using h1) h2 h4
end Go.Proofs.YtfkecmlmnhbmoaaGreatDoor
