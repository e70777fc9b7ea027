/- Parts G29 G30 J8 J9 D4. -/
import Derived.Test.YtfkecmlmnhbmoaaGreatDoorX30
set_option linter.unusedVariables false
set_option linter.unusedSimpArgs false
set_option maxRecDepth 100000
set_option maxHeartbeats 40000000
namespace Go.Proofs.YtfkecmlmnhbmoaaGreatDoor
open Go Go.RowKit Go.Maps
theorem b1q (nn:NQ)(n:Nat)(w:World)(b:Nat)(l:By)(x:PV)(r:By)(lv:Int)(hL:a0v w b l)(hlv:0≤lv)(hlv2:lv≤100)(hne:l≠[])(la:By)(hp:a0j false l false=(la,false))(hla:la≠[])(hpl:∀c∈la.head?,a0s (c.toNat:Int)=true)
  (hV:∀(w2:World) (b2:Nat),w.grownBy w2 none→a0v w2 b2 la→w.heap.size≤b2→Calls Tryz.prog 82 #[.agg #[],.pointer (some ⟨b2,0,none⟩),.int .i64 lv,.int .i64 100,.bool false] w2 fun e w'=>a0E nn n w2 w' b2 x r e) :
  Calls Tryz.prog 69 #[.agg #[],.pointer (some ⟨b,0,none⟩),.int .i64 lv,.int .i64 100,.bool false] w fun e w'=>a0E nn n w w' b x r e:=by
 obtain⟨c,t,rfl⟩:∃c t,l=c::t:=by cases l with|nil=>exact absurd rfl hne|cons c t=>exact⟨c,t,rfl⟩
 obtain⟨z,hz⟩:∃z,z=bs (c::t):=⟨_,rfl⟩;have hck:=fun w=>a5u ⟨#[112,97,114,115,101,32,111,98,106,101,99,116]⟩ lv (by omega) w;have hga:w.grownBy (w.alloc (Obj.cells #[] 99)) none:=a0a (xgr _ _) _;have hLa:=hL.keep hga (by simp);have hnb:=a4i (w.alloc (Obj.cells #[] 99)) b c t hLa;obtain⟨HL,Hp⟩:=xh2 hL hp;have Hla:=xhd (And.intro hla hpl);obtain⟨HV,Hz⟩:=xh2 hV hz.symm;have hbw:=hL.lt;clear hL hp hla hpl hV hz hne hLa;go_enter Tryz.func69,Tryz.ntmps69;go_wp2_with fail
 refine hnb.mono ?_;rintro e w1⟨rfl,n1,hw1⟩;have hG1:w.grownBy w1 none:=by rw[hw1];exact a0b hga _
 have hbx1:w1.heap[w.heap.size]?=some (.cells #[] 99 (0,0)):=by rw[hw1];exact heap_alloc_new w _
 have hs1:w1.heap.size=w.heap.size+1:=by rw[hw1];simp
 have hL1:=HL.out.keep hG1 (by simp);obtain⟨c1,f1⟩:=hL1.cell;rw[Hz.out]at c1;obtain⟨HG1,Hs1,HL1⟩:=xh3 hG1 hs1 hL1;have hbw1:=hL1.lt;clear hnb hga hw1 hG1 hs1 hL1;go_wp2_with fail
 refine(hck _).mono ?_;rintro e w2⟨rfl,hw2⟩;subst w2;go_wp2_with fail
 obtain⟨w3,hw3⟩:∃w3,w3=w1.alloc (Obj.cells #[Value.string z] 9):=⟨_,rfl⟩;have hg3:w1.grownBy w3 none:=by rw[hw3];exact a0a (xgr _ _) _
 have hl3:a0v w3 w1.heap.size (c::t):=by unfold a0v;rw[hw3,←Hz.out];exact heap_alloc_new _ _
 rw[←hw3];have hG3:=HG1.out.trans hg3;have HLb3:=xhd (HL.out.keep hG3 (by simp));obtain⟨HG3,Hl3⟩:=xh2 hG3 hl3;have hbx3:=(hg3.block _ (xgl hbx1) (by simp)).trans hbx1;clear hw3 hg3 hl3 hG3 c1 f1 hbx1;have htr:=a1H (c::t) la w3 Hp.out Hla.out.2;rw[Hz.out]at htr;refine htr.mono ?_;rintro e w4⟨⟨q,hq,rfl⟩,hb4⟩;obtain rfl:q=la:=by rcases hq with h|⟨h,_⟩;exact h;exact absurd h Hla.out.1
 have hg4:=a0o hb4;have HL4:=xhd (Hl3.out.keep hg4 (by simp));have HG4:=xhd (HG3.out.trans hg4);obtain⟨c4,f4⟩:=HL4.out.cell
 have hq0:((((bs q).size:Nat):Int)==0)=false:=by
  rw[a0f];have:=List.length_pos_iff.2 Hla.out.1;simp only[beq_eq_false_iff_ne];omega
 have hbx4:=(hg4.block _ (xgl hbx3) (by simp)).trans hbx3;clear hq hb4 hg4 hbx3 htr;go_wp2_with fail
 obtain⟨w5,hw5⟩:∃w5,w5=w4.setCell ⟨w1.heap.size,0,none⟩ (.string (bs q)):=⟨_,rfl⟩;have hL5:=HL4.out.set q;have hg5:=a0e (xgr w4 (some w1.heap.size)) 0 (.string (bs q));rw[←hw5]at hL5 hg5⊢;have hG5:w.grownBy w5 none:=a0g HG4.out hg5 (fun j hj=>by injection hj with hj;have:=Hs1.out;omega);have hbx5:=(hg5.block _ (xgl hbx4) (by have:=Hs1.out;simp;omega)).trans hbx4;obtain⟨c5,f5⟩:=hL5.cell;have hcall:=HV.out w5 w1.heap.size hG5 hL5 (by have:=Hs1.out;omega);have HG5:=xhd hG5;clear hw5 hL5 hg5 hG5 c4 f4 hbx4;go_wp2_with fail
 refine hcall.mono ?_;rintro e w6⟨po,v,S,rfl,hO,hS,hC,hL6,hg6⟩;have hG6:w.grownBy w6 none:=a0g HG5.out hg6 (fun j hj=>by injection hj with hj;have:=Hs1.out;omega);have hLb6:=HL.out.keep hG6 (by simp);obtain⟨c6,f6⟩:=hL6.cell;obtain⟨d6,e6⟩:=hLb6.cell;have hset:=a0e (xgr w6 (some b)) 0 (.string (bs r));have hs5:=HG5.out.size;have H:=xhd (show a0E nn n w (w6.setCell ⟨b,0,none⟩ (.string (bs r))) b x r (.returned (.tuple #[v,.nilIface])) from⟨po,v,S,rfl,ObjO.keep (fun k hk=>⟨hk,hset.block k (hS k hk).2 (by have:=hS k hk;simp;omega)⟩) _ _ hO,fun k hk=>by have:=hS k hk;have:=hset.size;omega,hC,hLb6.set r,a0e (hG6.but (some b)) _ _⟩);clear hO hS hC hL6 hg6 hG6 hLb6 hset hs5 c5 f5 hcall;go_wp2_with fail
 go_ret2;exact H.out
theorem b0F {pf:By→Nat}{nn:Nat→Prop}{n:Nat}{l r:By}{po:PO}(h:Spl pf nn n (lps l) po r):(NS pf nn n l r).2 po:=h
theorem b7T {pf:By→Nat}{nn:Nat→Prop}{n:Nat}{s r:By} : Spl pf nn (n+1) (40::(s++41::r)) (.lit s) r:=rfl
theorem b5h {pf:By→Nat}{nn:Nat→Prop}{n:Nat}{a m c r:By}(ha:∀x∈a,a0h (x.toNat:Int)=true)(hc:∀x∈c,a0h (x.toNat:Int)=true):Spl pf nn (n+1) (60::(a++m++c++62::r)) (.hexl (hexS m 0 [])) r:=⟨a,m,c,rfl,ha,hc,rfl⟩
theorem b4v (pf:By→Nat)(nn:Nat→Prop)(hnn:∀t,a1q t→nn (pf t))(W0:World)(ea eb:Addr)(ca cb:Array Value)(hI:b0k W0 ea eb ca cb)(hpf:PFC pf W0):∀n,ObjC pf nn W0 n:=by
 intro n
 induction n with
 | zero=>intro w b l x r lv _ _ _ _ _ _ h;simp[rdV]at h
 | succ n ih =>
  intro w b l x r lv hE hW0 hL hl hlv hlv2 h;obtain⟨_,c,l1,hp,hw,h37,hc⟩:=a2M h;have hne:l≠[]:=by rintro rfl;simp[a0j]at hp
  have hpl:=a3t hp h;have hlen:=a0K false l false;rw[hp]at hlen;simp at hlen;have hls:=a1K hp;refine b1q (NS pf nn (n+1) l r) (n+1) w b l x r lv hL hlv (by omega) hne _ hp (by simp) hpl.2 (fun w2 b2 hg2 hL2 hb2=>?_);have hE2:=hE.grown0 hg2;have hWb:W0.heap.size≤b2:=Nat.le_trans hE.1 hb2;rcases hc with⟨h1,t,h2,rfl⟩|⟨h1,l2,rfl,ks,vs,h2,rfl⟩|⟨h1,h2,t,h3,rfl⟩|⟨h1,k,h2,rfl,h3,rfl⟩|⟨h1,kids,h2,rfl⟩|⟨h1,h2⟩
  ·obtain rfl:c=40:=by apply UInt8.toNat_inj.1;simp;omega
   exact b4J w2 (NS pf nn (n+1) l r) n b2 l1 t r hL2 (by omega) h2 (fun s hs=>b0F (by rw[hls,hs];exact b7T)) lv
  ·obtain rfl:c=60:=by apply UInt8.toNat_inj.1;simp;omega
   exact b2G pf nn (NS pf nn (n+1) l r).2 W0 w2 hE2 hI.toa3M n ih b2 l2 hL2 (by simp at hlen;omega) hWb lv hlv (by omega) _ (ks,vs) r h2 (fun pk ps hd=>b0F (by rw[hls];exact b5g hd))
  ·obtain rfl:c=60:=by apply UInt8.toNat_inj.1;simp;omega
   exact b4I W0 w2 hE2 hI.toa3M (NS pf nn (n+1) l r) n b2 l1 t r hL2 (by omega) h2 h3 (fun a m c e ha hc=>b0F (by rw[hls,e];exact b5h ha hc)) lv
  ·obtain rfl:c=47:=by apply UInt8.toNat_inj.1;simp;omega
   exact b2H W0 w2 hE2 hI.toa3M (NS pf nn (n+1) l (a0k l1)) n b2 l1 k hL2 (by omega) hWb h3 h2 (b0F (b0f rfl)) lv
  ·obtain rfl:c=91:=by apply UInt8.toNat_inj.1;simp;omega
   exact b4H pf nn (NS pf nn (n+1) l r).2 W0 w2 hE2 n ih b2 l1 hL2 (by omega) hWb lv hlv (by omega) _ kids r h2 (fun ps hd=>b0F (by rw[hls];exact b7S hd))
  ·exact b4K pf (NS pf nn (n+1) l r) hnn (fun po h=>b0F (b0f h)) W0 w2 ea eb ca cb hI hpf hE2 n b2 c l1 hL2 (by omega) hWb h1 hw x r h2 lv
theorem b1p (pf:By→Nat)(nn:Nat→Prop)(W0:World)(n:Nat)(hC:ObjC pf nn W0 n)(hn:n≤100)(w:World)(hE:Env W0 w)(b:Nat)(l:By)(x:PV)(r:By)(hL:a0v w b l)(hl:l.length≤150000)(hW0:W0.heap.size≤b)(h:rdV pf n l false=some (x,r,false)) :
  Calls Tryz.prog 56 #[.agg #[],.pointer (some ⟨b,0,none⟩),.int .i64 0,.slice none 0 0] w fun e w'=>a0E (NS pf nn n l r) n w w' b x r e:=by
 obtain⟨c,t,rfl⟩:∃c t,l=c::t:=by
  cases l with
  | nil=>cases n with
   | zero=>simp[rdV]at h
   | succ n=>obtain⟨_,c,l1,h1,_⟩:=a2M h;simp[a0j]at h1
  | cons c t=>exact⟨c,t,rfl⟩
 have hga:w.grownBy (w.alloc (Obj.cells #[] 99)) none:=a0a (xgr _ _) _;have hnb:=a4i (w.alloc (Obj.cells #[] 99)) b c t (hL.keep hga (by simp));obtain⟨HL,HE,HC,Hh⟩:=xh4 hL hE hC h;have hbw:=hL.lt;have hb0:=heap_alloc_new w (Obj.cells #[] 99);clear hL hE hC h;go_enter Tryz.func56,Tryz.ntmps56;go_wp2_with fail
 refine hnb.mono ?_;rintro e w1⟨rfl,n1,hw1⟩;have hG1:w.grownBy w1 none:=by rw[hw1];exact a0b hga _
 have hbx1:w1.heap[w.heap.size]?=some (.cells #[] 99 (0,0)):=by rw[hw1];exact hb0
 clear hnb hga hw1 hb0;go_wp2_with fail
 refine(b1v _).mono ?_;rintro e w2⟨rfl,hg2⟩;have hG2:=hG1.trans hg2;have hbx2:=(hg2.block _ (xgl hbx1) (by simp)).trans hbx1;have hL2:=HL.out.keep hG2 (by simp);obtain⟨c2,f2⟩:=hL2.cell;have hcall:=HC.out w2 b (c::t) x r 0 (HE.out.grown0 hG2) hW0 hL2 hl (by omega) (by omega) Hh.out;have HG2:=xhd hG2;clear hG1 hg2 hG2 hbx1 hL2;go_wp2_with fail
 refine hcall.mono ?_;intro e w6 hP;have H:=xhd (a0E.box HG2.out hP);obtain⟨po,v,S,rfl,-,-,-,-,-⟩:=hP;go_wp2_with fail
 go_ret2;exact H.out
theorem a8R (pf:By→Nat)(nn:Nat→Prop)(W0:World)(n:Nat)(hC:ObjC pf nn W0 n)(hn:n≤100)(w:World)(hE:Env W0 w)(b:Nat)(l:By)(x:PV)(r:By)(hL:a0v w b l)(hl:l.length≤150000)(hW0:W0.heap.size≤b)(h:rdV pf n l false=some (x,r,false)) :
  Calls Tryz.prog 30 #[.pointer (some ⟨b,0,none⟩)] w fun e w'=>a0E (NS pf nn n l r) n w w' b x r e:=by
 have hcall:=b1p pf nn W0 n hC hn w hE b l x r hL hl hW0 h;clear hL hE hC h;go_enter Tryz.func30,Tryz.ntmps30;go_wp2_with fail
 refine hcall.mono ?_;intro e w6 hP;have H:=xhd hP;obtain⟨po,v,S,rfl,-,-,-,-,-⟩:=hP;go_wp2_with fail
 go_ret2;exact H.out
end Go.Proofs.YtfkecmlmnhbmoaaGreatDoor
namespace Go.Proofs.YtfkecmlmnhbmoaaGreatDoor
open Go Go.RowKit
theorem b9X (x hi lo s:Nat)(hx:x<18446744073709551616)(hh:hi<18446744073709551616)(hl:lo<18446744073709551616)(hs:s<64) :
  ∃u:Int,(0≤u∧u≤18446744073709551615)∧∀(w:World) (pb:Nat),w.cell? ⟨pb,0,none⟩=some (.int .u64 hi)→w.cell? ⟨pb,1,none⟩=some (.int .u64 lo)→w.cell? ⟨pb,2,none⟩=some (.int .i64 s) →
  Calls Tryz.prog 162 #[.int .u64 x,.pointer (some ⟨pb,0,none⟩)] w fun e w'=>e=.returned (.int .u64 u)∧∃n,w'=w.drewN n:=by
 have hbs:bits BinOp.and IntKind.i64 (s:Int) 63=(s:Int):=by
  have key:∀t:Nat,t<64→bits BinOp.and IntKind.i64 (t:Int) 63=(t:Int):=by decide
  exact key s hs
 obtain⟨H,hH⟩:∃H,H=x*hi/18446744073709551616:=⟨_,rfl⟩;obtain⟨M,hM⟩:∃M,M=x*hi%18446744073709551616:=⟨_,rfl⟩;obtain⟨M2,hM2⟩:∃M2,M2=x*lo/18446744073709551616:=⟨_,rfl⟩;have hHb:H<18446744073709551616:=by rw[hH];exact Nat.div_lt_of_lt_mul (Nat.mul_lt_mul'' hx hh)
 have hMb:M<18446744073709551616:=by rw[hM];exact Nat.mod_lt _ (by decide)
 have hM2b:M2<18446744073709551616:=by rw[hM2];exact Nat.div_lt_of_lt_mul (Nat.mul_lt_mul'' hx hl)
 obtain⟨HH,HM,HM2⟩:=xh3 hH hM hM2;clear hH hM hM2
 rcases xbt (IntKind.u64.wrap ((H:Int)/2^s*2^s) != (H:Int)) with hc1|hc1
 ·apply Exists.intro
  refine⟨?_,fun w pb c0 c1 c2=>?_⟩
  rotate_left
  go_enter Tryz.func162,Tryz.ntmps162;go_wp2_with fail
  refine(Tryz.bits_Mul64 x hi hx hh _).mono ?_;rintro e w1⟨rfl,hw⟩;subst w1;rw[←HH.out,←HM.out];go_wp2_with fail
  go_ret;exact⟨rfl,0,rfl⟩;exact a5h _ _
 ·by_cases hlt:M<M2
  ·rcases xbt (decide (1<IntKind.u64.wrap ((M:Int)-(M2:Int)))) with hd|hd
   all_goals
    apply Exists.intro;refine⟨?_,fun w pb c0 c1 c2=>?_⟩
    rotate_left
    go_enter Tryz.func162,Tryz.ntmps162;go_wp2_with fail
    refine(Tryz.bits_Mul64 x hi hx hh _).mono ?_;rintro e w1⟨rfl,hw⟩;subst w1;rw[←HH.out,←HM.out];go_wp2_with fail
    refine(Tryz.bits_Mul64 x lo hx hl _).mono ?_;rintro e w1⟨rfl,hw⟩;subst w1;rw[←HM2.out];go_wp2_with fail
    first
     | refine(b2_t _).mono ?_
     | refine(b2_f _).mono ?_
    rintro e w1⟨rfl,hw⟩;subst w1;go_wp2_with fail
    go_quiet ((go_at_call 151;with_reducible first|exact Calls.quiet_of_same (b2_t _)|exact Calls.quiet_of_same (b2_f _)))
    go_wp2_with fail
    go_ret;exact⟨rfl,_,rfl⟩;exact a5h _ _
  ·rcases xbt (decide (1<(M:Int)-(M2:Int))) with hd|hd
   all_goals
    apply Exists.intro;refine⟨?_,fun w pb c0 c1 c2=>?_⟩
    rotate_left
    go_enter Tryz.func162,Tryz.ntmps162;go_wp2_with fail
    refine(Tryz.bits_Mul64 x hi hx hh _).mono ?_;rintro e w1⟨rfl,hw⟩;subst w1;rw[←HH.out,←HM.out];go_wp2_with fail
    refine(Tryz.bits_Mul64 x lo hx hl _).mono ?_;rintro e w1⟨rfl,hw⟩;subst w1;rw[←HM2.out];go_wp2_with fail
    first
     | refine(b2_t _).mono ?_
     | refine(b2_f _).mono ?_
    rintro e w1⟨rfl,hw⟩;subst w1;go_wp2_with fail
    go_quiet ((go_at_call 151;with_reducible first|exact Calls.quiet_of_same (b2_t _)|exact Calls.quiet_of_same (b2_f _)))
    go_wp2_with fail
    go_ret;exact⟨rfl,_,rfl⟩;exact a5h _ _
theorem g12:Tryz.prog.globalNamed "internal/strconv.uint64pow10" = some 12:=by kernel_rfl
def FwC (W0:World)(m:Nat)(e n:Int)(D P:Int):Prop:=∀w:World,Env W0 w→Calls Tryz.prog 121 #[.int .u64 m,.int .i64 e,.int .i64 n,.int .i64 12,.int .u8 102] w fun e w'=>e=.returned (.tuple #[.int .u64 D,.int .i64 (-P)])∧w.grownBy w' none
theorem b8K (W0:World)(hF:a5t W0)(hT:Lib.TabIs Tryz.prog W0 "internal/strconv.uint64pow10" .u64 Lib.pow10Tab)(m:Nat)(hm:m<18446744073709551616)(ex p0:Int)(s nn:Nat)(hn0:1≤nn)(hn18:nn≤18)(he1:-1000≤ex)(he2:ex≤1000)
  (hp0:(nn:Int)-1-(ex+63)*78913/262144=p0)(hp1:11≤p0)(hp2:p0≤13)(hs:-(ex+p0*108853/32768+3)=s)(hs64:s<64) :
  ∃D P:Int,0≤D∧D≤18446744073709551615∧10≤P∧P≤12∧FwC W0 m ex nn D P:=by
 obtain⟨i,hi⟩:∃i:Nat,p0+348=i:=⟨(p0+348).toNat,by omega⟩;obtain⟨hi9,lo9,hh,hl,t0,t1⟩:=hF.p10 i (by omega)
 have hc12:∃v:Int,0≤v∧v≤18446744073709551615∧W0.cell? ⟨12,nn,none⟩=some (.int .u64 v):=by
  have key:∀j:Nat,j<20→0≤Lib.pow10Tab.getD j 0∧Lib.pow10Tab.getD j 0≤18446744073709551615:=by decide
  exact⟨_,(key nn (by omega)).1,(key nn (by omega)).2,hT.cell g12 nn (by rw[Lib.pow10Tab_length];omega)⟩
 obtain⟨pv,hpv0,hpv1,hpc⟩:=hc12;obtain⟨u,⟨hu0,hu1⟩,hus⟩:=b9X m hi9 lo9 s hm hh hl hs64;obtain⟨um,⟨hm0,hm1⟩,hum⟩:=b7Z pv hpv0 hpv1;obtain⟨lp,hlp⟩:∃lp,lp=p0*108853/32768:=⟨_,rfl⟩;rw[←hlp]at hs;have hlp3:-400≤lp:=by omega
 have hlp4:lp≤100:=by omega
 have h21:21<W0.heap.size:=World.block_lt_of_cell? _ _ t0;obtain⟨Hlp,Hs,H21,HT0,HT1,Hus,Hum,Hpc⟩:=xh8 hlp hs h21 t0 t1 hus hum hpc;clear hlp hs h21 t0 t1 hus hum hpc hF hT;rcases xbt (decide (um≤u)) with hge|hge
 ·obtain⟨u1,⟨ha0,ha1⟩,hdv⟩:=b5L u hu0 hu1
  have Hdv:=xhd hdv;clear hdv;obtain⟨v,⟨hv0,hv1⟩,hrn⟩:=a7n u1 ha0 ha1;have Hrn:=xhd hrn;clear hrn;refine⟨v,p0-1,hv0,hv1,by omega,by omega,fun w hE=>?_⟩;have hwz:=hE.1;have hnn1:(nn:Int)<20:=by omega
  go_enter Tryz.func121,Tryz.ntmps121;go_wp2_with fail
  refine(a1z _ (ex+63) (by omega) (by omega)).mono ?_;rintro e w1⟨rfl,hw⟩;subst w1;go_wp2_with fail
  refine(a5J _ p0 (by omega) (by omega)).mono ?_;rintro e w1⟨rfl,hw⟩;subst w1;rw[←Hlp.out];go_wp2_with fail
  have hnew:=heap_alloc_new w (.cells #[.int .u64 0,.int .u64 0,.int .i64 0] 240 (0,0));refine(a5Y _ w.heap.size ex p0 lp i hi9 lo9 240 _ _ _ hi (by omega) (by have:=H21.out;omega) (by rw[World.cell?_alloc_past _ _ _ (by have:=H21.out;simp;omega)];exact hE.cell HT0.out) (by rw[World.cell?_alloc_past _ _ _ (by have:=H21.out;simp;omega)];exact hE.cell HT1.out) (by exact hnew) (by omega) (by omega) (by omega) (by omega)).mono ?_;rintro e w1⟨rfl,hb1,hg1⟩;rw[Hs.out]at hb1;have d0:w1.cell? ⟨w.heap.size,0,none⟩=some (.int .u64 hi9):=by simp[World.cell?,hb1]
  have d1:w1.cell? ⟨w.heap.size,1,none⟩=some (.int .u64 lo9):=by simp[World.cell?,hb1]
  have d2:w1.cell? ⟨w.heap.size,2,none⟩=some (.int .i64 s):=by simp[World.cell?,hb1]
  have HG1:=xhd (show w.grownBy w1 none from a0g (a0a (xgr w none) _) hg1 (fun j hj=>by injection hj with hj;omega));clear hg1 hb1 hnew;go_wp2_with fail
  refine(Hus.out w1 w.heap.size d0 d1 d2).mono ?_;rintro e w2⟨rfl,k1,rfl⟩;have hpw:(w1.drewN k1).cell? ⟨12,nn,none⟩=some (.int .u64 pv):=(hE.grown0 HG1.out).cell Hpc.out;replace HG1:=xhd (show w.grownBy (w1.drewN k1) none from a0b HG1.out _);generalize w1.drewN k1=w2 at *;clear d0 d1 d2;go_wp2_with fail
  refine(Hum.out _).mono ?_;rintro e w3⟨rfl,hw⟩;subst w3;go_wp2_with fail
  refine(Hdv.out _).mono ?_;rintro e w3⟨rfl,k2,rfl⟩;replace HG1:=xhd (show w.grownBy (w2.drewN k2) none from a0b HG1.out _);generalize w2.drewN k2=w3 at *;go_wp2_with fail
  go_loopg [11,13] 0 (fun g t11 t13 wr=>t11=.int .i64 (p0-1)∧t13=.int .u64 u1∧w3=wr)
  case atStart=>exact⟨rfl,rfl,rfl⟩
  case round =>
   obtain⟨rfl,rfl,rfl⟩:=hrel;have hlt:¬(12<p0-1):=by omega
   go_wp2_with fail
   refine(Hrn.out _).mono ?_;rintro e w4⟨rfl,hw⟩;subst w4;go_wp2_with fail
   go_ret2;exact⟨rfl,HG1.out⟩
 ·by_cases h13:p0=13
  ·have h13a:13≤p0:=by omega
   clear h13;obtain⟨u2,⟨ha0,ha1⟩,hdv⟩:=b5L u hu0 hu1;have Hdv:=xhd hdv;clear hdv;obtain⟨v,⟨hv0,hv1⟩,hrn⟩:=a7n u2 ha0 ha1;have Hrn:=xhd hrn;clear hrn;refine⟨v,12,hv0,hv1,by omega,by omega,fun w hE=>?_⟩;have hwz:=hE.1;have hnn1:(nn:Int)<20:=by omega
   go_enter Tryz.func121,Tryz.ntmps121;go_wp2_with fail
   refine(a1z _ (ex+63) (by omega) (by omega)).mono ?_;rintro e w1⟨rfl,hw⟩;subst w1;go_wp2_with fail
   refine(a5J _ p0 (by omega) (by omega)).mono ?_;rintro e w1⟨rfl,hw⟩;subst w1;rw[←Hlp.out];go_wp2_with fail
   have hnew:=heap_alloc_new w (.cells #[.int .u64 0,.int .u64 0,.int .i64 0] 240 (0,0));refine(a5Y _ w.heap.size ex p0 lp i hi9 lo9 240 _ _ _ hi (by omega) (by have:=H21.out;omega) (by rw[World.cell?_alloc_past _ _ _ (by have:=H21.out;simp;omega)];exact hE.cell HT0.out) (by rw[World.cell?_alloc_past _ _ _ (by have:=H21.out;simp;omega)];exact hE.cell HT1.out) (by exact hnew) (by omega) (by omega) (by omega) (by omega)).mono ?_;rintro e w1⟨rfl,hb1,hg1⟩;rw[Hs.out]at hb1;have d0:w1.cell? ⟨w.heap.size,0,none⟩=some (.int .u64 hi9):=by simp[World.cell?,hb1]
   have d1:w1.cell? ⟨w.heap.size,1,none⟩=some (.int .u64 lo9):=by simp[World.cell?,hb1]
   have d2:w1.cell? ⟨w.heap.size,2,none⟩=some (.int .i64 s):=by simp[World.cell?,hb1]
   have HG1:=xhd (show w.grownBy w1 none from a0g (a0a (xgr w none) _) hg1 (fun j hj=>by injection hj with hj;omega));clear hg1 hb1 hnew;go_wp2_with fail
   refine(Hus.out w1 w.heap.size d0 d1 d2).mono ?_;rintro e w2⟨rfl,k1,rfl⟩;have hpw:(w1.drewN k1).cell? ⟨12,nn,none⟩=some (.int .u64 pv):=(hE.grown0 HG1.out).cell Hpc.out;replace HG1:=xhd (show w.grownBy (w1.drewN k1) none from a0b HG1.out _);generalize w1.drewN k1=w2 at *;clear d0 d1 d2;go_wp2_with fail
   refine(Hum.out _).mono ?_;rintro e w3⟨rfl,hw⟩;subst w3;go_wp2_with fail
   go_loopg [11,13] 1 (fun g t11 t13 wr=>∃(p:Int) (z:Int),t11=.int .i64 p∧t13=.int .u64 z∧w.grownBy wr none∧((p=p0∧z=u∧g=1)∨(p=12∧z=u2∧g=0)))
   case atStart=>exact⟨_,_,rfl,rfl,HG1.out,.inl ⟨rfl,rfl,rfl⟩⟩
   case round =>
    obtain⟨p,z,rfl,rfl,hgw,h⟩:=hrel;have Hgw:=xhd hgw;clear hgw HG1;rcases h with⟨hp,rfl,hg⟩|⟨rfl,rfl,hg⟩
    ·have Hg:=xhd hg
     have hgt:12<p:=by omega
     have Hp:=xhd hp;have hple:p≤13:=by omega
     clear hp hg;go_wp2_with fail
     refine(Hdv.out _).mono ?_;rintro e w3⟨rfl,k2,rfl⟩;go_wp2_with fail
     go_roundg 0
     case measure=>rw[Hg.out];omega
     case rel=>exact⟨_,_,rfl,rfl,a0b Hgw.out _,.inr ⟨by have:=Hp.out;omega,rfl,rfl⟩⟩
    ·go_wp2_with fail
     refine(Hrn.out _).mono ?_;rintro e w4⟨rfl,hw⟩;subst w4;go_wp2_with fail
     go_ret2;exact⟨rfl,Hgw.out⟩
  ·have h13a:p0≤12:=by omega
   clear h13;obtain⟨v,⟨hv0,hv1⟩,hrn⟩:=a7n u hu0 hu1;have Hrn:=xhd hrn;clear hrn;refine⟨v,p0,hv0,hv1,by omega,by omega,fun w hE=>?_⟩;have hwz:=hE.1;have hnn1:(nn:Int)<20:=by omega
   go_enter Tryz.func121,Tryz.ntmps121;go_wp2_with fail
   refine(a1z _ (ex+63) (by omega) (by omega)).mono ?_;rintro e w1⟨rfl,hw⟩;subst w1;go_wp2_with fail
   refine(a5J _ p0 (by omega) (by omega)).mono ?_;rintro e w1⟨rfl,hw⟩;subst w1;rw[←Hlp.out];go_wp2_with fail
   have hnew:=heap_alloc_new w (.cells #[.int .u64 0,.int .u64 0,.int .i64 0] 240 (0,0));refine(a5Y _ w.heap.size ex p0 lp i hi9 lo9 240 _ _ _ hi (by omega) (by have:=H21.out;omega) (by rw[World.cell?_alloc_past _ _ _ (by have:=H21.out;simp;omega)];exact hE.cell HT0.out) (by rw[World.cell?_alloc_past _ _ _ (by have:=H21.out;simp;omega)];exact hE.cell HT1.out) (by exact hnew) (by omega) (by omega) (by omega) (by omega)).mono ?_;rintro e w1⟨rfl,hb1,hg1⟩;rw[Hs.out]at hb1;have d0:w1.cell? ⟨w.heap.size,0,none⟩=some (.int .u64 hi9):=by simp[World.cell?,hb1]
   have d1:w1.cell? ⟨w.heap.size,1,none⟩=some (.int .u64 lo9):=by simp[World.cell?,hb1]
   have d2:w1.cell? ⟨w.heap.size,2,none⟩=some (.int .i64 s):=by simp[World.cell?,hb1]
   have HG1:=xhd (show w.grownBy w1 none from a0g (a0a (xgr w none) _) hg1 (fun j hj=>by injection hj with hj;omega));clear hg1 hb1 hnew;go_wp2_with fail
   refine(Hus.out w1 w.heap.size d0 d1 d2).mono ?_;rintro e w2⟨rfl,k1,rfl⟩;have hpw:(w1.drewN k1).cell? ⟨12,nn,none⟩=some (.int .u64 pv):=(hE.grown0 HG1.out).cell Hpc.out;replace HG1:=xhd (show w.grownBy (w1.drewN k1) none from a0b HG1.out _);generalize w1.drewN k1=w2 at *;clear d0 d1 d2;go_wp2_with fail
   refine(Hum.out _).mono ?_;rintro e w3⟨rfl,hw⟩;subst w3;go_wp2_with fail
   go_loopg [11,13] 0 (fun g t11 t13 wr=>t11=.int .i64 p0∧t13=.int .u64 u∧w2=wr)
   case atStart=>exact⟨rfl,rfl,rfl⟩
   case round =>
    obtain⟨rfl,rfl,rfl⟩:=hrel;have hlt:¬(12<p0):=by omega
    go_wp2_with fail
    refine(Hrn.out _).mono ?_;rintro e w4⟨rfl,hw⟩;subst w4;go_wp2_with fail
    go_ret2;exact⟨rfl,HG1.out⟩
theorem b8A {a b:Int}(h:b≤a):compare a b=Ordering.gt∨compare a b=Ordering.eq:=by
 show compareOfLessAndEq a b=_∨compareOfLessAndEq a b=_
 unfold compareOfLessAndEq;rw[if_neg (by omega)]
 by_cases e:a=b
 ·rw[if_pos e];exact .inr rfl
 ·rw[if_neg e];exact .inl rfl
theorem b8B {a b:Int}(h:a≤b):compare a b=Ordering.lt∨compare a b=Ordering.eq:=by
 show compareOfLessAndEq a b=_∨compareOfLessAndEq a b=_
 unfold compareOfLessAndEq
 by_cases e:a<b
 ·rw[if_pos e];exact .inl rfl
 ·rw[if_neg e,if_pos (by omega)];exact .inr rfl
theorem a9S {x:Nat}(h1:4816244402031689728≤x%9223372036854775808)(h2:x%9223372036854775808<9218868437227405312) :
  FloatKind.f64.format.read x=.number (x/9223372036854775808%2==1) (4503599627370496+x%9223372036854775808%4503599627370496) (-1074+((x%9223372036854775808/4503599627370496-1:Nat):Int)):=by
 have e1:FloatKind.f64.format=Ieee.double:=rfl;have e2:Ieee.double.signWeight=9223372036854775808:=by decide
 have e3:Ieee.double.infRung=9218868437227405312:=by decide
 have e4:Ieee.double.binade=4503599627370496:=by decide
 have e5:Ieee.double.leastPlace=-1074:=by decide
 rw[e1];unfold Ieee.Format.read;simp only[e2,e3,e4,e5];rw[if_neg (by omega),if_pos h2]
theorem a6J {R:Nat}(h1:4816244402031689728≤R)(h2:R<9218868437227405312)(i j:Int)(hi:i=-1074+((R/4503599627370496-1:Nat):Int))(hj:j=-1074+1068):min i j=j∧(j-j).toNat=0∧6400000000000000≤(4503599627370496+R%4503599627370496) <<< (i-j).toNat:=by
 have hE:1069≤R/4503599627370496:=by omega
 refine⟨by omega,by omega,?_⟩;rw[Nat.shiftLeft_eq]
 by_cases he:R/4503599627370496=1069
 ·rw[show (i-j).toNat=0 by omega,Nat.pow_zero,Nat.mul_one];omega
 ·have h2:2^1≤2^(i-j).toNat:=Nat.pow_le_pow_right (by decide) (by omega)
  have:(4503599627370496+R%4503599627370496)*2^1≤(4503599627370496+R%4503599627370496)*2^(i-j).toNat:=Nat.mul_le_mul_left _ h2;omega
theorem b9K:FloatKind.f64.format.read 4816244402031689728=.number false 6400000000000000 (-1074+1068):=by decide
theorem b7D:FloatKind.f64.format.read 14039616438886465536=.number true 6400000000000000 (-1074+1068):=by decide
theorem b7q {x:Nat}(hx:x<9223372036854775808)(h1:4816244402031689728≤x)(h2:x<9218868437227405312):FloatKind.f64.format.order x 4816244402031689728=some .gt∨FloatKind.f64.format.order x 4816244402031689728=some .eq:=by
 have hm:x%9223372036854775808=x:=Nat.mod_eq_of_lt hx;unfold Ieee.Format.order;rw[a9S (by omega) (by omega),b9K,hm];have hs:(x/9223372036854775808%2==1)=false:=by simp;omega
 rw[hs];obtain⟨q1,q2,q3⟩:=a6J h1 h2 _ _ rfl rfl;simp only[Ieee.Datum.order];rw[q1,q2];rcases b8A (a:=Ieee.signed false (4503599627370496+x%4503599627370496) (-1074+((x/4503599627370496-1:Nat):Int)-(-1074+1068)).toNat) (b:=Ieee.signed false 6400000000000000 0) (show ((6400000000000000 <<< 0:Nat):Int)≤((_ <<< _:Nat):Int) from Int.ofNat_le.2 q3) with h|h
 ·rw[h];exact .inl rfl
 ·rw[h];exact .inr rfl
theorem b7p {x:Nat}(hx:9223372036854775808≤x)(hx2:x<18446744073709551616)(h1:4816244402031689728≤x%9223372036854775808)(h2:x%9223372036854775808<9218868437227405312):FloatKind.f64.format.order x 14039616438886465536=some .lt∨FloatKind.f64.format.order x 14039616438886465536=some .eq:=by
 unfold Ieee.Format.order;rw[a9S (by omega) (by omega),b7D];have hs:(x/9223372036854775808%2==1)=true:=by simp;omega
 rw[hs];obtain⟨q1,q2,q3⟩:=a6J h1 h2 _ _ rfl rfl;simp only[Ieee.Datum.order];rw[q1,q2];rcases b8B (a:=Ieee.signed true (4503599627370496+x%9223372036854775808%4503599627370496) (-1074+((x%9223372036854775808/4503599627370496-1:Nat):Int)-(-1074+1068)).toNat) (b:=Ieee.signed true 6400000000000000 0) (show -((_ <<< _:Nat):Int)≤-((6400000000000000 <<< 0:Nat):Int) from Int.neg_le_neg (Int.ofNat_le.2 q3)) with h|h
 ·rw[h];exact .inl rfl
 ·rw[h];exact .inr rfl
theorem a9U {r:Nat}(h:9218868437227405312<r%9223372036854775808):∃s p,FloatKind.f64.format.read r=.nan s p:=by
 have e1:FloatKind.f64.format=Ieee.double:=rfl;have e2:Ieee.double.signWeight=9223372036854775808:=by decide
 have e3:Ieee.double.infRung=9218868437227405312:=by decide
 have e4:Ieee.double.binade=4503599627370496:=by decide
 rw[e1];unfold Ieee.Format.read;simp only[e2,e3,e4];rw[if_neg (by omega),if_neg (by omega),if_neg (by omega)];exact⟨_,_,rfl⟩
theorem b4S {r:Nat}(h:r%9223372036854775808=9218868437227405312):∃s,FloatKind.f64.format.read r=.infinity s:=by
 have e1:FloatKind.f64.format=Ieee.double:=rfl;have e2:Ieee.double.signWeight=9223372036854775808:=by decide
 have e3:Ieee.double.infRung=9218868437227405312:=by decide
 have e4:Ieee.double.binade=4503599627370496:=by decide
 rw[e1];unfold Ieee.Format.read;simp only[e2,e3,e4];rw[if_neg (by omega),if_neg (by omega),if_pos h];exact⟨_,rfl⟩
theorem b6u (t:Nat):9218868437227405312<(t%2*2^63+0x7ff0000000000000+1+t/2%(2^52-1))%9223372036854775808:=by
 have h1:t/2%(2^52-1)<2^52-1:=Nat.mod_lt _ (by decide);generalize t/2%(2^52-1)=q at *;have h2:t%2=0∨t%2=1:=by omega
 rcases h2 with h|h<;>rw[h]<;>omega
theorem a8g (x:Nat)(w:World):∃r w',(binOp .sub 22 (.float .f64 x) (.float .f64 x)).run Tryz.prog w=.ok (.float .f64 r) w'∧(w'=w∨w'=w.drew) ∧
  ((x%9223372036854775808<9218868437227405312∧(FloatKind.f64.format.order r 0 != some .eq)=false)∨(¬x%9223372036854775808<9218868437227405312∧(FloatKind.f64.format.order r 0 != some .eq)=true)):=by
 by_cases hf:x%9223372036854775808<9218868437227405312
 ·obtain⟨s,m,j,hr⟩:=a5H hf
  have hs:FloatKind.f64.format.sub x x=some 0:=by
   unfold Ieee.Format.sub;rw[hr];simp only[Ieee.Datum.opposite,Ieee.Datum.sum,Option.map_some]
   have ht:Ieee.signed s m (j-min j j).toNat+Ieee.signed (!s) m (j-min j j).toNat=0:=by
    unfold Ieee.signed;cases s<;>simp<;>omega
   rw[ht];simp only[if_true];have e:(s&&!s)=false:=by cases s<;>rfl
   rw[e];rfl
  exact⟨0,w,run_float_arith w .sub 22 .f64 x x 0 hs,.inl rfl,.inl ⟨hf,by decide⟩⟩
 ·have hs:FloatKind.f64.format.sub x x=none:=by
   unfold Ieee.Format.sub
   by_cases hi:x%9223372036854775808=9218868437227405312
   ·obtain⟨s,hr⟩:=b4S hi
    rw[hr]
    cases s<;>rfl
   ·obtain⟨s,p,hr⟩:=a9U (r:=x) (by omega)
    rw[hr];rfl
  refine⟨(Question.nanBits .f64 x x).cut (w.tape w.drawn (.nanBits .f64 x x)),w.drew,?_,.inr rfl,.inr ⟨hf,?_⟩⟩
  ·simp[binOp,Op.floatArith,hs,Question.forced]
  ·obtain⟨s,p,hr⟩:=a9U (r:=(Question.nanBits .f64 x x).cut (w.tape w.drawn (.nanBits .f64 x x))) (by simp only[Question.cut];exact b6u _)
   unfold Ieee.Format.order;rw[hr];rfl
end Go.Proofs.YtfkecmlmnhbmoaaGreatDoor
