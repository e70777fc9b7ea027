/- FnParse: the texts F18 F19 G24 G25 of the workbench, laid together. -/
import Derived.Test.YtfkecmlmnhbmoaaGreatDoorProg
import Derived.WalkKit
import Derived.WalkLawsBesides
import Derived.WalkSpells
import Derived.BigQuiet
import Derived.BigRegion
import Derived.Deep.QuietTactic
import Derived.Deep.RegionHeld3
import Derived.Deep.LoopGhost
import Derived.StillTailTactics
import Derived.Lib.Hide
import Derived.Laws.EntriesVeiled
import Derived.Test.YtfkecmlmnhbmoaaGreatDoorZ22
import Derived.Test.YtfkecmlmnhbmoaaGreatDoorZ23
import Derived.Test.YtfkecmlmnhbmoaaGreatDoorZ32
import Derived.Test.YtfkecmlmnhbmoaaGreatDoorZ33
import Derived.Test.YtfkecmlmnhbmoaaGreatDoorZ35
set_option linter.unusedVariables false
set_option linter.unusedSimpArgs false
namespace Go.Proofs.YtfkecmlmnhbmoaaGreatDoor
open Go Go.RowKit
structure FInit3 (W0:World):Prop extends FInit2 W0 where
  nz:∀ fb fo (i:Nat) x,(∃ fc,W0.cell? ⟨20,0,Option.none⟩=some (.slice (some ⟨fb,fo,Option.none⟩) 23 fc))→i < 23→W0.cell? ⟨fb,fo + i,Option.none⟩=some (.float .f64 x)→∃ s m j,FloatKind.f64.format.read x=.number s m j∧m≠0
theorem b2_tv {o:Int} (ho:o=1) (w:World):Calls Tryz.prog 151 #[.bool true] w fun e w'=>e=.returned (.int .u64 o)∧w'=w:=by subst ho;exact b2_t w
theorem rf_facts {l:By} (h:numOk l):∃ M nd dp tr,rfF (numStrip l) 0 0 0 false=(M,nd,dp,tr)∧M < 10000000000000000000∧-60≤dp∧dp≤14∧nd≤60∧(nd:Int) - dp≤60∧(M=0↔nd=0)∧(tr=true→20≤nd):=by
  obtain ⟨pre,c,l1,d,a,_,_,hst,hsc,h1,h2,h3⟩:=numOk_parts h
  have hI:=rf_end _ 0 0 0 false 0 0 0 d a hsc RfI.start
  rw [hst]
  generalize rfF (c::l1) 0 0 0 false=R at hI ⊢
  obtain ⟨M,nd,dp,tr⟩:=R
  simp only at hI
  have hm:=hI.m
  have hm2:10 ^ min nd 19≤10 ^ 19:=pow10_le (by omega)
  have hm3:(10:Nat) ^ 19=10000000000000000000:=by decide
  refine ⟨M,nd,dp,tr,rfl,by omega,?_,?_,?_,?_,hI.m0,hI.t⟩
  · have h1:=hI.lo;have h2:=hI.nd_d;omega
  · have:=hI.hi;omega
  · have:=hI.nd_d;omega
  · have:=hI.lo;omega
def A64 (W0:World) (l:By) (s:ByteArray) (x:Nat):Prop:=∀ w:World,Env W0 w→Calls Tryz.prog 107 #[.string s] w fun e w'=>e=.returned (.tuple #[.float .f64 x,.int .i64 s.size,.nilIface])∧w.grownBy w' none
set_option maxRecDepth 100000 in
set_option maxHeartbeats 40000000 in
theorem a64_zero (W0:World) (hF:FInit3 W0) (l:By) (hok:numOk l) (s:ByteArray) (hs:s.data.toList=l) (hs2:s.size≤1000) (hM:(rfF (numStrip l) 0 0 0 false).1=0):∃ x,nnF x∧A64 W0 l s x:=by
  have hopt:=hF.opt
  have hfb:=run_frombits
  obtain ⟨M,nd,dp,tr,hR,_⟩:=rf_facts hok
  rw [hR] at hM
  simp only at hM
  subst hM
  obtain ⟨ng,hng⟩:∃ ng,headIs l (· == 45)=ng:=⟨_,rfl⟩
  have hrf:=fun w=>rf_any w s l hs hok hs2
  have hsp:=fun w=>special_any w s l hs hok hs2
  unfold rfRet at hrf
  simp only [hR,hng,if_true] at hrf
  have Hrf:=Lib.hid hrf;clear hrf
  have Hsp:=Lib.hid hsp;clear hsp
  have Hng:=Lib.hid hng;clear hng
  have HR:=Lib.hid hR;clear hR
  have Hs:=Lib.hid hs;clear hs
  clear hok
  have y30:∀ (a b c:Value),([a,b,c]:List Value)[0]?=some a:=fun _ _ _=>rfl
  have y31:∀ (a b c:Value),([a,b,c]:List Value)[1]?=some b:=fun _ _ _=>rfl
  have y32:∀ (a b c:Value),([a,b,c]:List Value)[2]?=some c:=fun _ _ _=>rfl
  have y70:∀ (a b c d e f g:Value),([a,b,c,d,e,f,g]:List Value)[0]?=some a:=fun _ _ _ _ _ _ _=>rfl
  have y71:∀ (a b c d e f g:Value),([a,b,c,d,e,f,g]:List Value)[1]?=some b:=fun _ _ _ _ _ _ _=>rfl
  have y72:∀ (a b c d e f g:Value),([a,b,c,d,e,f,g]:List Value)[2]?=some c:=fun _ _ _ _ _ _ _=>rfl
  have y73:∀ (a b c d e f g:Value),([a,b,c,d,e,f,g]:List Value)[3]?=some d:=fun _ _ _ _ _ _ _=>rfl
  have y74:∀ (a b c d e f g:Value),([a,b,c,d,e,f,g]:List Value)[4]?=some e:=fun _ _ _ _ _ _ _=>rfl
  have y75:∀ (a b c d e f g:Value),([a,b,c,d,e,f,g]:List Value)[5]?=some f:=fun _ _ _ _ _ _ _=>rfl
  have y76:∀ (a b c d e f g:Value),([a,b,c,d,e,f,g]:List Value)[6]?=some g:=fun _ _ _ _ _ _ _=>rfl
  have sh0:∀ w:World,(Op.shift BinOp.shl IntKind.u64 0 IntKind.u64 63).run Tryz.prog w=.ok (.int .u64 0) w:=fun _=>by kernel_rfl
  obtain ⟨S63,hS63⟩:∃ S63:Int,S63=9223372036854775808:=⟨_,rfl⟩
  obtain ⟨o1,ho1⟩:∃ o1:Int,o1=1:=⟨_,rfl⟩
  have sh1:∀ w:World,(Op.shift BinOp.shl IntKind.u64 o1 IntKind.u64 63).run Tryz.prog w=.ok (.int .u64 S63) w:=fun _=>by rw [hS63,ho1];kernel_rfl
  have sh2:IntKind.u64.wrap (o1 * 9223372036854775808)=S63:=by rw [ho1,hS63];decide
  have Ho1:=Lib.hid ho1;clear ho1
  have hS0:0≤S63:=by omega
  have hS1:S63≤18446744073709551615:=by omega
  have HS63:=Lib.hid hS63;clear hS63
  obtain ⟨Z0,hZ0⟩:∃ Z0,bits BinOp.or IntKind.u64 0 0=Z0:=⟨_,rfl⟩
  obtain ⟨Z1,hZ1⟩:∃ Z1,bits BinOp.or IntKind.u64 S63 0=Z1:=⟨_,rfl⟩
  obtain ⟨x0,hx0⟩:∃ x:Nat,x=Z0.toNat:=⟨_,rfl⟩
  obtain ⟨x1,hx1⟩:∃ x:Nat,x=Z1.toNat:=⟨_,rfl⟩
  have hfb0:∀ w:World,(callFunc 152 #[.int .u64 Z0]).run Tryz.prog w=.ok (.value (.float .f64 x0)) w:=fun w=>by rw [hx0];exact hfb Z0 w
  have hfb1:∀ w:World,(callFunc 152 #[.int .u64 Z1]).run Tryz.prog w=.ok (.value (.float .f64 x1)) w:=fun w=>by rw [hx1];exact hfb Z1 w
  have n0:nnF x0:=by rw [hx0,←hZ0];exact nnF_of (by decide)
  have n1:nnF x1:=by rw [hx1,←hZ1,HS63.out];exact nnF_of (by decide)
  clear hx0 hx1 hfb
  cases ng
  · refine ⟨x0,n0,fun w hE=>?_⟩
    have e0:=hE.cell hopt
    go_enter Tryz.func107,Tryz.ntmps107
    go_wp2_with fail
    refine (Hsp.out _).mono ?_
    rintro e w1 ⟨rfl,hw⟩
    subst w1
    go_wp2_with fail
    refine (Hrf.out _).mono ?_
    rintro e w1 ⟨rfl,hw⟩
    subst w1
    go_wp2_with fail
    refine (b2_f _).mono ?_
    rintro e w1 ⟨rfl,hw⟩
    subst w1
    go_wp2_with fail
    go_ret3
    exact ⟨rfl,World.grownBy.refl _ _⟩
  · refine ⟨x1,n1,fun w hE=>?_⟩
    have e0:=hE.cell hopt
    go_enter Tryz.func107,Tryz.ntmps107
    go_wp2_with fail
    refine (Hsp.out _).mono ?_
    rintro e w1 ⟨rfl,hw⟩
    subst w1
    go_wp2_with fail
    refine (Hrf.out _).mono ?_
    rintro e w1 ⟨rfl,hw⟩
    subst w1
    go_wp2_with fail
    refine (b2_tv Ho1.out _).mono ?_
    rintro e w1 ⟨rfl,hw⟩
    subst w1
    go_wp2_with fail
    go_ret3
    exact ⟨rfl,World.grownBy.refl _ _⟩
end Go.Proofs.YtfkecmlmnhbmoaaGreatDoor
namespace Go.Proofs.YtfkecmlmnhbmoaaGreatDoor
open Go Go.RowKit
set_option maxRecDepth 100000 in
set_option maxHeartbeats 40000000 in
theorem a64_short (W0:World) (hF:FInit3 W0) (l:By) (hok:numOk l) (s:ByteArray) (hs:s.data.toList=l) (hs2:s.size≤1000) (hM:¬(rfF (numStrip l) 0 0 0 false).1=0) (htr:(rfF (numStrip l) 0 0 0 false).2.2.2=false):∃ x,nnF x∧A64 W0 l s x:=by
  have hopt:=hF.opt
  have hfb:=run_frombits
  obtain ⟨M,nd,dp,tr,hR,hM19,hdp1,hdp2,hnd60,hndp,hM0,htr20⟩:=rf_facts hok
  obtain ⟨ng,hng⟩:∃ ng,headIs l (· == 45)=ng:=⟨_,rfl⟩
  have hrf:=fun w=>rf_any w s l hs hok hs2
  have hsp:=fun w=>special_any w s l hs hok hs2
  unfold rfRet at hrf
  rw [hR] at hM
  simp only at hM
  simp only [hR,hng,if_neg hM] at hrf
  obtain ⟨p,hp⟩:∃ p,p=dp - (min nd 19:Nat):=⟨_,rfl⟩
  rw [←hp] at hrf
  have hp1:-100≤p:=by omega
  have hp2:p≤20:=by omega
  have hMb:((M:Int) == 0)=false:=by simp;omega
  have hM9:M < 18446744073709551616:=by omega
  have y30:∀ (a b c:Value),([a,b,c]:List Value)[0]?=some a:=fun _ _ _=>rfl
  have y31:∀ (a b c:Value),([a,b,c]:List Value)[1]?=some b:=fun _ _ _=>rfl
  have y32:∀ (a b c:Value),([a,b,c]:List Value)[2]?=some c:=fun _ _ _=>rfl
  have y70:∀ (a b c d e f g:Value),([a,b,c,d,e,f,g]:List Value)[0]?=some a:=fun _ _ _ _ _ _ _=>rfl
  have y71:∀ (a b c d e f g:Value),([a,b,c,d,e,f,g]:List Value)[1]?=some b:=fun _ _ _ _ _ _ _=>rfl
  have y72:∀ (a b c d e f g:Value),([a,b,c,d,e,f,g]:List Value)[2]?=some c:=fun _ _ _ _ _ _ _=>rfl
  have y73:∀ (a b c d e f g:Value),([a,b,c,d,e,f,g]:List Value)[3]?=some d:=fun _ _ _ _ _ _ _=>rfl
  have y74:∀ (a b c d e f g:Value),([a,b,c,d,e,f,g]:List Value)[4]?=some e:=fun _ _ _ _ _ _ _=>rfl
  have y75:∀ (a b c d e f g:Value),([a,b,c,d,e,f,g]:List Value)[5]?=some f:=fun _ _ _ _ _ _ _=>rfl
  have y76:∀ (a b c d e f g:Value),([a,b,c,d,e,f,g]:List Value)[6]?=some g:=fun _ _ _ _ _ _ _=>rfl
  have sh0:∀ w:World,(Op.shift BinOp.shl IntKind.u64 0 IntKind.u64 63).run Tryz.prog w=.ok (.int .u64 0) w:=fun _=>by kernel_rfl
  obtain ⟨S63,hS63⟩:∃ S63:Int,S63=9223372036854775808:=⟨_,rfl⟩
  obtain ⟨o1,ho1⟩:∃ o1:Int,o1=1:=⟨_,rfl⟩
  have sh1:∀ w:World,(Op.shift BinOp.shl IntKind.u64 o1 IntKind.u64 63).run Tryz.prog w=.ok (.int .u64 S63) w:=fun _=>by rw [hS63,ho1];kernel_rfl
  have sh2:IntKind.u64.wrap (o1 * 9223372036854775808)=S63:=by rw [ho1,hS63];decide
  have Ho1:=Lib.hid ho1;clear ho1
  have hS0:0≤S63:=by omega
  have hS1:S63≤18446744073709551615:=by omega
  have HS63:=Lib.hid hS63;clear hS63
  rw [hR] at htr
  simp only at htr
  subst htr
  have hex:=ex_any W0 hF.toFInit2 hF.nz M hM9 p hp1 hp2 ng
  obtain ⟨xe,ok,hxn,hex⟩:=hex
  have Hrf:=Lib.hid hrf;clear hrf
  have Hsp:=Lib.hid hsp;clear hsp
  have Hng:=Lib.hid hng;clear hng
  have HR:=Lib.hid hR;clear hR
  have Hs:=Lib.hid hs;clear hs
  have Hex:=Lib.hid hex;clear hex
  have Hp:=Lib.hid hp;clear hp
  have HM:=Lib.hid hM;clear hM
  clear hok hfb hM0 htr20 hM19 hndp
  cases ng
  · obtain ⟨xp,hpn,hpf⟩:=pf64_ex W0 hF.toFInit2 M hM9 p hp1 hp2 0 (.inl rfl)
    have Hpf:=Lib.hid hpf;clear hpf
    cases ok
    · refine ⟨xp,hpn,fun w hE=>?_⟩
      clear hpn hxn
      have e0:=hE.cell hopt
      go_enter Tryz.func107,Tryz.ntmps107
      go_wp2_with fail
      refine (Hsp.out _).mono ?_
      rintro e w1 ⟨rfl,hw⟩
      subst w1
      go_wp2_with fail
      refine (Hrf.out _).mono ?_
      rintro e w1 ⟨rfl,hw⟩
      subst w1
      go_wp2_with fail
      refine (b2_f _).mono ?_
      rintro e w1 ⟨rfl,hw⟩
      subst w1
      go_wp2_with fail
      refine (Hex.out _ hE).mono ?_
      rintro e w1 ⟨rfl,hw⟩
      subst w1
      go_wp2_with fail
      refine (Hpf.out _ hE).mono ?_
      rintro e w1 ⟨rfl,hg⟩
      have Hg:=Lib.hid hg;clear hg
      go_wp2_with fail
      go_ret3
      exact ⟨rfl,Hg.out⟩
    · refine ⟨xe,hxn rfl,fun w hE=>?_⟩
      clear hpn hxn
      have e0:=hE.cell hopt
      go_enter Tryz.func107,Tryz.ntmps107
      go_wp2_with fail
      refine (Hsp.out _).mono ?_
      rintro e w1 ⟨rfl,hw⟩
      subst w1
      go_wp2_with fail
      refine (Hrf.out _).mono ?_
      rintro e w1 ⟨rfl,hw⟩
      subst w1
      go_wp2_with fail
      refine (b2_f _).mono ?_
      rintro e w1 ⟨rfl,hw⟩
      subst w1
      go_wp2_with fail
      refine (Hex.out _ hE).mono ?_
      rintro e w1 ⟨rfl,hw⟩
      subst w1
      go_wp2_with fail
      go_ret3
      exact ⟨rfl,World.grownBy.refl _ _⟩
  · obtain ⟨xp,hpn,hpf⟩:=pf64_ex W0 hF.toFInit2 M hM9 p hp1 hp2 S63 (.inr HS63.out)
    have Hpf:=Lib.hid hpf;clear hpf
    cases ok
    · refine ⟨xp,hpn,fun w hE=>?_⟩
      clear hpn hxn
      have e0:=hE.cell hopt
      go_enter Tryz.func107,Tryz.ntmps107
      go_wp2_with fail
      refine (Hsp.out _).mono ?_
      rintro e w1 ⟨rfl,hw⟩
      subst w1
      go_wp2_with fail
      refine (Hrf.out _).mono ?_
      rintro e w1 ⟨rfl,hw⟩
      subst w1
      go_wp2_with fail
      refine (b2_tv Ho1.out _).mono ?_
      rintro e w1 ⟨rfl,hw⟩
      subst w1
      go_wp2_with fail
      refine (Hex.out _ hE).mono ?_
      rintro e w1 ⟨rfl,hw⟩
      subst w1
      go_wp2_with fail
      refine (Hpf.out _ hE).mono ?_
      rintro e w1 ⟨rfl,hg⟩
      have Hg:=Lib.hid hg;clear hg
      go_wp2_with fail
      go_ret3
      exact ⟨rfl,Hg.out⟩
    · refine ⟨xe,hxn rfl,fun w hE=>?_⟩
      clear hpn hxn
      have e0:=hE.cell hopt
      go_enter Tryz.func107,Tryz.ntmps107
      go_wp2_with fail
      refine (Hsp.out _).mono ?_
      rintro e w1 ⟨rfl,hw⟩
      subst w1
      go_wp2_with fail
      refine (Hrf.out _).mono ?_
      rintro e w1 ⟨rfl,hw⟩
      subst w1
      go_wp2_with fail
      refine (b2_tv Ho1.out _).mono ?_
      rintro e w1 ⟨rfl,hw⟩
      subst w1
      go_wp2_with fail
      refine (Hex.out _ hE).mono ?_
      rintro e w1 ⟨rfl,hw⟩
      subst w1
      go_wp2_with fail
      go_ret3
      exact ⟨rfl,World.grownBy.refl _ _⟩
end Go.Proofs.YtfkecmlmnhbmoaaGreatDoor
namespace Go.Proofs.YtfkecmlmnhbmoaaGreatDoor
open Go Go.RowKit
open Go.Maps
def DictPost (nn:Nat→Prop) (n:Nat) (w w':World) (b:Nat) (res:List By × List PV) (r:By) (e:Ending):Prop :=
  ∃ pk ps vals S db,e=.returned (.tuple #[.map (some db),.nilIface])∧DictAt w' db pk vals∧w.heap.size≤db∧ObjOs S w' ps vals∧(∀ k,S k→w.heap.size≤k∧k < w'.heap.size)∧Corr nn (n + 1) (.dict pk ps) (.dict res.1 res.2)∧LineAt w' b r∧w.grownBy w' (some b)∧KeysOk pk
set_option maxRecDepth 100000 in
set_option maxHeartbeats 40000000 in
theorem dict133_any (pf:By→Nat) (nn:Nat→Prop) (W0 w:World) (hE:Env W0 w) (hI:InitP W0) (n:Nat) (hC:ObjC pf nn W0 n) (b:Nat) (l2:By) (hL:LineAt w b (60::60::l2)) (hl:l2.length≤100000) (hW0:W0.heap.size≤b) (lv:Int) (hlv:0≤lv) (hlv2:lv + n + 1≤100)
    (m:Nat) (res:List By × List PV) (r:By) (h:rdDict (rdV pf n) m l2 false [] []=some (res,r,false)) :
    Calls Tryz.prog 133 #[.agg #[],.pointer (some ⟨b,0,none⟩),.int .i64 lv,.int .i64 100,.bool false] w fun e w'=>DictPost nn n w w' b res r e:=by
  obtain ⟨c0,f0⟩:=hL.cell
  have hbw:=hL.lt
  obtain ⟨m',la,hm,hp,hcs⟩:=rdDict_inv (rdV_odd pf n) h
  have h3:la≠[]∧∀ c∈la.head?,isPlain (c.toNat:Int)=true:=by
    rcases hcs with ⟨t,rfl,_⟩ | ⟨l4,k4,x4,l5,rfl,_⟩
    · exact ⟨by simp,fun c hc=>by simp at hc;subst hc;decide⟩
    · exact ⟨by simp,fun c hc=>by simp at hc;subst hc;decide⟩
  have h3l:=passM_len false l2 false
  rw [hp] at h3l
  have h2l:=rdDict_two (fun l o x r o' h=>rdV_len pf n l o x r o' h) h (rdV_odd pf n)
  have hd:=(rdDict_pass hp).trans h
  have hpre:=fun w=>prefix_any (60::60::l2) [60,60] true (by simp [List.isPrefixOf]) w
  have hfwd:=fun w=>fwd_any (60::60::l2) 2 w
  simp only [List.drop_succ_cons,List.drop_zero] at hfwd
  have ecs:(⟨#[60,60]⟩:ByteArray)=bs [60,60]:=rfl
  obtain ⟨z,hz⟩:∃ z,z=bs (60::60::l2):=⟨_,rfl⟩
  have hz4:¬z.size < 4:=by rw [hz,bs_size];simp;omega
  have hz0:((z.size:Int) == 0)=false:=by simp only [beq_eq_false_iff_ne];omega
  rw [←hz] at hpre hfwd c0
  have HL:=Lib.hid hL
  have HE:=Lib.hid hE
  have HI:=Lib.hid hI
  have HC:=Lib.hid hC
  have Hp:=Lib.hid hp
  have Hd:=Lib.hid hd
  have H3:=Lib.hid (And.intro h3 (show la.length≤100000 by simp at h3l;omega))
  have Hz:=Lib.hid hz.symm
  clear hL hE hI hC hp h hd h3 h3l h2l hcs hm hz
  go_enter Tryz.func133,Tryz.ntmps133
  go_wp2_with fail
  obtain ⟨w2,hw2⟩:∃ w2,w2=(w.alloc (Obj.cells #[] 99)).alloc (Obj.cells #[Value.string z] 9):=⟨_,rfl⟩
  have hbx2:w2.heap[w.heap.size]?=some (.cells #[] 99 (0,0)):=by rw [hw2];exact (alloc2 w w.heap.size rfl _ _).1
  have hLl2:LineAt w2 (w.heap.size + 1) (60::60::l2):=by unfold LineAt;rw [hw2,←Hz.out];exact (alloc2 w w.heap.size rfl _ _).2
  have hG2:w.grownBy w2 none:=by rw [hw2];exact gr_alloc (gr_alloc (World.grownBy.refl w none) _) _
  rw [←hw2]
  have HL2:=Lib.hid (HL.out.keep hG2 (by simp))
  have HLl2:=Lib.hid hLl2
  have HG2:=Lib.hid hG2
  obtain ⟨c2,f2⟩:=HL2.out.cell
  obtain ⟨d2,e2⟩:=HLl2.out.cell
  rw [Hz.out] at c2 d2
  have HB2:=Lib.hid hbx2
  clear hw2 hLl2 hG2 hbx2
  refine (hpre _).mono ?_
  rintro e w1 ⟨rfl,hw1⟩
  subst w1
  go_wp2_with fail
  refine (hfwd _).mono ?_
  rintro e w1 ⟨rfl,hw1⟩
  subst w1
  go_wp2_with fail
  have hL3:=HLl2.out.set l2
  have hg3:=gr_set (World.grownBy.refl w2 (some (w.heap.size + 1))) 0 (.string (bs l2))
  generalize w2.setCell ⟨w.heap.size + 1,0,none⟩ (.string (bs l2))=w3 at hL3 hg3 ⊢
  have HL3:=Lib.hid hL3
  have Hg3:=Lib.hid hg3
  clear hL3 hg3
  refine (trim_any2 l2 la _ Hp.out H3.out.1.2).mono ?_
  rintro e w4 ⟨⟨q,hq,rfl⟩,hb4⟩
  obtain rfl:q=la:=by rcases hq with h | ⟨h,_⟩;exact h;exact absurd h H3.out.1.1
  have hg4:=gr_of_below hb4
  have HL4:=Lib.hid (HL3.out.keep hg4 (by simp))
  have Hg4:=Lib.hid (Hg3.out.trans (hg4.but (some (w.heap.size + 1))))
  obtain ⟨c4,f4⟩:=HL4.out.cell
  have hq0:((((bs q).size:Nat):Int) == 0)=false:=by
    rw [bs_size]
    have:=List.length_pos_iff.2 H3.out.1.1
    simp only [beq_eq_false_iff_ne];omega
  clear hq hb4 hg4 c2 d2 f2 e2
  go_wp2_with fail
  obtain ⟨w5,hw5⟩:∃ w5,w5=w4.setCell ⟨w.heap.size + 1,0,none⟩ (.string (bs q)):=⟨_,rfl⟩
  have hL5:=HL4.out.set q
  have hg5:=gr_set Hg4.out 0 (.string (bs q))
  rw [←hw5] at hL5 hg5 ⊢
  have HL5:=Lib.hid hL5
  have Hg5:=Lib.hid hg5
  have HE5:=Lib.hid ((HE.out.grown0 HG2.out).grown hg5 (fun k hk=>by injection hk with hk;have:=HE.out.1;omega))
  obtain ⟨c5,f5⟩:=hL5.cell
  have hbx5:=(hg5.block _ (Array.getElem?_eq_some_iff.1 HB2.out).1 (by simp)).trans HB2.out
  clear hw5 hL5 hg5 c4 f4
  go_wp2_with fail
  refine (keys_any pf nn W0 w5 HE5.out HI.out n HC.out (w.heap.size + 1) q HL5.out H3.out.2 (by have:=HE.out.1;omega) lv hlv hlv2 m res r (passM_fix Hp.out) Hd.out).mono ?_
  rintro e w6 ⟨pk,ps,vals,S,db,rfl,hDA,hdb,hO,hS,hC,hL6,hg6,hKO⟩
  have hG6:w.grownBy w6 none:=gr_noneThen HG2.out (Hg5.out.trans hg6) (fun j hj=>by injection hj with hj;omega)
  have HLb:=Lib.hid (HL.out.keep hG6 (by simp))
  have hs5:w.heap.size + 2≤w5.heap.size:=by
    have h1:=HLl2.out.lt
    have h2:=Hg5.out.size
    omega
  have HDA:=Lib.hid (And.intro hDA hdb)
  have HKO:=Lib.hid hKO
  clear hKO
  have HO:=Lib.hid hO
  have HS:=Lib.hid hS
  have HCo:=Lib.hid hC
  have HL6:=Lib.hid hL6
  have HG6:=Lib.hid hG6
  obtain ⟨c6,f6⟩:=hL6.cell
  clear hDA hdb hO hS hC hL6 hg6 hG6 c5 f5 hbx5
  go_wp2_with fail
  refine (fwd_any (62::62::r) 2 _).mono ?_
  rintro e w7 ⟨rfl,hw7⟩
  subst w7
  simp only [List.drop_succ_cons,List.drop_zero]
  obtain ⟨c7,f7⟩:=HLb.out.cell
  go_wp2_with fail
  have hL7:=HL6.out.set r
  have hg7:=gr_set (World.grownBy.refl w6 (some (w.heap.size + 1))) 0 (.string (bs r))
  have HLb7:=Lib.hid (HLb.out.keep hg7 (by simp;omega))
  obtain ⟨w7,hw7⟩:∃ w7,w7=w6.setCell ⟨w.heap.size + 1,0,none⟩ (.string (bs r)):=⟨_,rfl⟩
  rw [←hw7] at hL7 hg7 HLb7 ⊢
  clear hw7 c6 c7 f6 f7
  go_ret2
  have hg8:=gr_set (World.grownBy.refl w7 (some b)) 0 (.string (bs r))
  have hkk:∀ k,k < w6.heap.size→k≠b→k≠w.heap.size + 1→(w7.setCell ⟨b,0,none⟩ (.string (bs r))).heap[k]?=w6.heap[k]?:=fun k h1 h2 h3=>(hg8.block k (Nat.lt_of_lt_of_le h1 hg7.size) (by simp;omega)).trans (hg7.block k h1 (by simp;omega))
  have hs7:=hg7.size
  have hs8:=hg8.size
  refine ⟨pk,ps,vals,S,db,rfl,HDA.out.1.keep (hkk db HDA.out.1.lt (by have:=HDA.out.2;omega) (by have:=HDA.out.2;omega)),by have:=HDA.out.2;omega,ObjOs.keep (fun k hk=>⟨hk,hkk k (HS.out k hk).2 (by have:=HS.out k hk;omega) (by have:=HS.out k hk;omega)⟩) _ _ HO.out,fun k hk=>by have:=HS.out k hk;omega,HCo.out,HLb7.out.set r,?_,HKO.out⟩
  exact gr_set ((gr_noneThen HG6.out hg7 (fun j hj=>by injection hj with hj;omega)).but (some b)) _ _
end Go.Proofs.YtfkecmlmnhbmoaaGreatDoor
namespace Go.Proofs.YtfkecmlmnhbmoaaGreatDoor
open Go Go.RowKit
open Go.Maps
set_option maxRecDepth 100000 in
set_option maxHeartbeats 40000000 in
theorem dict101_any (pf:By→Nat) (nn:Nat→Prop) (W0 w:World) (hE:Env W0 w) (hI:InitP W0) (n:Nat) (hC:ObjC pf nn W0 n) (b:Nat) (l2:By) (hL:LineAt w b (60::60::l2)) (hl:l2.length≤100000) (hW0:W0.heap.size≤b) (lv:Int) (hlv:0≤lv) (hlv2:lv + n + 1≤100)
    (m:Nat) (res:List By × List PV) (r:By) (h:rdDict (rdV pf n) m l2 false [] []=some (res,r,false)) :
    Calls Tryz.prog 101 #[.agg #[],.pointer (some ⟨b,0,none⟩),.int .i64 lv,.int .i64 100,.bool false] w fun e w'=>ObjPost nn (n + 1) w w' b (.dict res.1 res.2) r e:=by
  obtain ⟨c0,f0⟩:=hL.cell
  have hbw:=hL.lt
  obtain ⟨z,hz⟩:∃ z,z=bs (60::60::l2):=⟨_,rfl⟩
  have hz2:¬z.size < 2:=by rw [hz,bs_size];simp
  have hz1:1 < z.size:=by omega
  obtain ⟨hk1,hget⟩:=bs_at (l:=60::60::l2) (pre:=[60]) (c:=60) (post:=l2) rfl
  have hg1:z[1]'hz1=60:=by simp only [hz];exact hget
  rw [←hz] at c0
  have HL:=Lib.hid hL
  have HE:=Lib.hid hE
  have hg0:w.grownBy (w.alloc (Obj.cells #[] 99)) none:=gr_alloc (World.grownBy.refl _ _) _
  have hd:=dict133_any pf nn W0 (w.alloc (Obj.cells #[] 99)) (hE.grown0 hg0) hI n hC b l2 (hL.keep hg0 (by simp)) hl hW0 lv hlv hlv2 m res r h
  have hck:=fun w=>check_any ⟨#[112,97,114,115,101,32,111,98,106,101,99,116]⟩ lv (by omega) w
  have Hg0:=Lib.hid hg0
  have hss:w.heap.size < (w.alloc (Obj.cells #[] 99)).heap.size:=by simp
  have Hss:=Lib.hid hss
  clear hL hE hI hC h hz hk1 hget hg0 hss
  go_enter Tryz.func101,Tryz.ntmps101
  go_wp2_with fail
  refine (hck _).mono ?_
  rintro e w1 ⟨rfl,hw1⟩
  subst w1
  go_wp2_with fail
  refine hd.mono ?_
  rintro e w1 ⟨pk,ps,vals,S,db,rfl,hDA,hdb,hO,hS,hC,hL1,hg1,hKO⟩
  have H:=Lib.hid (show ObjPost nn (n + 1) w w1 b (.dict res.1 res.2) r (.returned (.tuple #[.iface 81 (.map (some db)),.nilIface])) from ⟨.dict pk ps,_,fun k=>k=db∨S k,rfl,by
    simp only [ObjO]
    exact ⟨hKO,db,vals,rfl,.inl rfl,hDA,ObjOs.keep (fun k hk=>⟨.inr hk,rfl⟩) _ _ hO⟩,fun k hk=>by
    have:=Hss.out
    rcases hk with rfl | hk
    · have:=hDA.lt;omega
    · have:=hS k hk;omega,hC,hL1,(Hg0.out.but (some b)).trans hg1⟩)
  clear hDA hdb hO hS hC hL1 hg1 hKO
  go_wp2_with fail
  go_ret2
  exact H.out
set_option maxRecDepth 100000 in
set_option maxHeartbeats 40000000 in
theorem hex101_any (W0 w:World) (hE:Env W0 w) (hI:InitP W0) (nn:Nat→Prop) (n:Nat) (b:Nat) (l1 t r:By) (hL:LineAt w b (60::l1)) (hl:l1.length≤100000) (h60:is2 (60::l1) 60=false) (h:hexF l1 false 0 [] false=(0,t,r,false)) (lv:Int) :
    Calls Tryz.prog 101 #[.agg #[],.pointer (some ⟨b,0,none⟩),.int .i64 lv,.int .i64 100,.bool false] w fun e w'=>ObjPost nn (n + 1) w w' b (.str t) r e:=by
  obtain ⟨hx,rfl,hok,hall⟩:=hex_all h
  clear h
  obtain ⟨c0,f0⟩:=hL.cell
  have hbw:=hL.lt
  obtain ⟨z,hz⟩:∃ z,z=bs (60::(hx ++ 62::r)):=⟨_,rfl⟩
  have hz2:¬z.size < 2:=by rw [hz,bs_size];simp;omega
  have hz1:1 < z.size:=by omega
  obtain ⟨d,tl,hdt⟩:∃ d tl,hx ++ 62::r=d::tl:=by cases hx<;>exact ⟨_,_,rfl⟩
  obtain ⟨hk1,hget⟩:=bs_at (l:=60::(hx ++ 62::r)) (pre:=[60]) (c:=d) (post:=tl) (by rw [hdt];rfl)
  have hg1:z[1]'hz1=d:=by simp only [hz];exact hget
  have hd60:((d.toNat:Int) == 60)=false:=by rw [hdt] at h60;simpa [is2] using h60
  rw [←hz] at c0
  have HL:=Lib.hid hL
  have HE:=Lib.hid hE
  have hg0:w.grownBy (w.alloc (Obj.cells #[] 99)) none:=gr_alloc (World.grownBy.refl _ _) _
  have hd:=hex134_any W0 hI (w.alloc (Obj.cells #[] 99)) (hE.grown0 hg0) b hx r (hL.keep hg0 (by simp)) hok (by simp at hl;omega) (by simp at hl;omega)
  have Hg0:=Lib.hid hg0
  have Hall:=Lib.hid hall
  have Hhl:=Lib.hid (show hx.length≤100000 by simp at hl;omega)
  clear hL hE hI hz hk1 hget hg0 hdt h60 hall hok
  go_enter Tryz.func101,Tryz.ntmps101
  go_wp2_with fail
  refine hd.mono ?_
  rintro e w1 ⟨⟨a,m,c,hm,ha,hc,rfl⟩,hL1,hg1⟩
  have H:=Lib.hid (show ObjPost nn (n + 1) w w1 b (.str t) r (.returned (.tuple #[.iface 70 (.string (bs (hexS m 0 []))),.nilIface])) from ObjPost.plain (.hexl (hexS m 0 [])) _ rfl (fun _ _=>by simp only [ObjO];exact ⟨by have h1:=hexS_len m 0;have h2:=Hhl.out;rw [hm] at h2;simp at h2;omega,trivial⟩) (by simp only [Corr];exact Hall.out a m c hm ha hc) hL1 ((Hg0.out.but (some b)).trans hg1))
  clear hm ha hc hL1 hg1
  go_wp2_with fail
  go_ret2
  exact H.out
end Go.Proofs.YtfkecmlmnhbmoaaGreatDoor
