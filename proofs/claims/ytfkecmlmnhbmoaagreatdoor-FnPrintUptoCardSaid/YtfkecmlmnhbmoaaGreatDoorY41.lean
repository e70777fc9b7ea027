/- The texts L1 Q5 D6 of the workbench, laid together. -/
import Derived.Test.YtfkecmlmnhbmoaaGreatDoorProg
import Derived.WalkKit
import Derived.WalkLawsBesides
import Derived.WalkSpells
import Derived.BigQuiet
import Derived.BigRegion
import Derived.Deep.QuietTactic
import Derived.Deep.RegionHeld3
import Derived.Deep.LoopGhost
import Derived.StillTailTactics
import Derived.Lib.Hide
import Derived.Laws.EntriesVeiled
import Derived.Lib.ItoaLen
import Derived.Test.YtfkecmlmnhbmoaaGreatDoorY19
import Derived.Test.YtfkecmlmnhbmoaaGreatDoorY32
import Derived.Test.YtfkecmlmnhbmoaaGreatDoorY35
import Derived.Test.YtfkecmlmnhbmoaaGreatDoorY39
set_option linter.unusedVariables false
set_option linter.unusedSimpArgs false
namespace Go.Proofs.YtfkecmlmnhbmoaaGreatDoor
open Go Go.RowKit
open Go.Maps
def kidsV:PV→List PV
 | .arr kids=>kids | .dict _ kids=>kids | _=>[]
def keysV:PV→List By
 | .dict keys _=>keys | _=>[]
theorem IsVs.get {S:Nat→Prop} {w:World} : ∀ (ps:List PV) (c:List Value),IsVs S w ps c→∀ (i:Nat) p,ps[i]?=some p→∃ ks vs,IsV S w p ks vs∧∀ j u,(c7 p ks vs)[j]?=some u→c[i * 7 + j]?=some u
 | [],c,h,i,p,hi=>by simp at hi
 | q :: ps, c, h, i, p, hi => by
  simp only [IsVs] at h
  obtain ⟨ks,vs,rest,h1,h2,h3⟩:=h
  subst h1
  cases i with
  | zero =>
   simp at hi;subst hi
   refine ⟨ks,vs,h2,fun j u hj=>?_⟩
   rw [List.getElem?_append_left (by have:=(List.getElem?_eq_some_iff.1 hj).1;omega)]
   simpa using hj
  | succ i =>
   obtain ⟨ks',vs',h4,h5⟩:=IsVs.get ps rest h3 i p (by simpa using hi)
   refine ⟨ks',vs',h4,fun j u hj=>?_⟩
   have hl:(c7 q ks vs).length=7:=rfl
   rw [List.getElem?_append_right (by omega),hl,show (i + 1) * 7 + j - 7=i * 7 + j by omega]
   exact h5 j u hj
theorem IsV.view {S:Nat→Prop} {w:World} {x:PV} {ks vs:Value} (h:IsV S w x ks vs):∃ ko kc vo vc,ks=.slice ko (keysV x).length kc∧vs=.slice vo (kidsV x).length vc∧(keysV x).length≤maxLen∧(kidsV x).length≤maxLen ∧
  ((keysV x).length=0∨∃ b i,ko=some ⟨b,i,none⟩∧S b∧∀ j u,(kvals (keysV x))[j]?=some u→w.cell? ⟨b,i + j,none⟩=some u) ∧
  ((kidsV x).length=0∨∃ b i,vo=some ⟨b,i,none⟩∧S b∧∀ j p,(kidsV x)[j]?=some p→∃ ks' vs',IsV S w p ks' vs'∧∀ m u,(c7 p ks' vs')[m]?=some u→w.cell? ⟨b,i + j * 7 + m,none⟩=some u):=by
 have kid:∀ (kids:List PV) (cells:List Value),IsVs S w kids cells→∀ vs,SlAt S w vs 7 kids.length cells→∃ vo vc,vs=.slice vo kids.length vc∧kids.length≤maxLen∧(kids.length=0∨∃ b i,vo=some ⟨b,i,none⟩∧S b∧∀ j p,kids[j]?=some p→∃ ks' vs',IsV S w p ks' vs'∧∀ m u,(c7 p ks' vs')[m]?=some u→w.cell? ⟨b,i + j * 7 + m,none⟩=some u):=by
  intro kids cells hI vs hs
  obtain ⟨_,o,c,rfl,h1,h2,h3⟩:=hs
  refine ⟨o,c,rfl,Nat.le_trans h1 h2,?_⟩
  rcases h3 with h3 | ⟨b,i,rfl,hb,hc⟩
  ·exact .inl h3
  ·refine .inr ⟨b,i,rfl,hb,fun j p hj=>?_⟩
   obtain ⟨ks',vs',h4,h5⟩:=IsVs.get kids cells hI j p hj
   exact ⟨ks',vs',h4,fun m u hm=>by rw [Nat.add_assoc];exact hc _ u (h5 m u hm)⟩
 have key:∀ (keys:List By) (ks:Value),SlAt S w ks 1 keys.length (kvals keys)→∃ ko kc,ks=.slice ko keys.length kc∧keys.length≤maxLen∧(keys.length=0∨∃ b i,ko=some ⟨b,i,none⟩∧S b∧∀ j u,(kvals keys)[j]?=some u→w.cell? ⟨b,i + j,none⟩=some u):=by
  intro keys ks hs
  obtain ⟨_,o,c,rfl,h1,h2,h3⟩:=hs
  exact ⟨o,c,rfl,Nat.le_trans h1 h2,h3⟩
 cases x
 case arr kids =>
  simp only [IsV] at h
  obtain ⟨h1,cells,h2,h3⟩:=h
  obtain ⟨vo,vc,rfl,a1,a2⟩:=kid kids cells h3 vs h2
  obtain ⟨ko,kc,rfl,b1,b2⟩:=key [] ks h1
  exact ⟨ko,kc,vo,vc,rfl,rfl,b1,a1,b2,a2⟩
 case dict keys kids =>
  simp only [IsV] at h
  obtain ⟨h1,cells,h2,h3⟩:=h
  obtain ⟨vo,vc,rfl,a1,a2⟩:=kid kids cells h3 vs h2
  obtain ⟨ko,kc,rfl,b1,b2⟩:=key keys ks h1
  exact ⟨ko,kc,vo,vc,rfl,rfl,b1,a1,b2,a2⟩
 all_goals
  simp only [IsV] at h
  obtain ⟨vo,vc,rfl,a1,a2⟩:=kid [] [] (by simp [IsVs]) vs h.2
  obtain ⟨ko,kc,rfl,b1,b2⟩:=key [] ks h.1
  exact ⟨ko,kc,vo,vc,rfl,rfl,b1,a1,b2,a2⟩
theorem kind_null (x:PV):(pvKind x != 0)=!x.isNull:=by cases x<;>rfl
theorem nnz_take {l:List PV} {i:Nat} {p:PV} (h:l[i]?=some p):nnz (l.take (i + 1))=nnz (l.take i) + (if p.isNull then 0 else 1):=by
 rw [List.take_add_one,h]
 unfold nnz
 rw [List.filter_append,List.length_append]
 cases hp:p.isNull<;>simp [hp]
theorem nnz_le (l:List PV):nnz l≤l.length:=List.length_filter_le _ _
set_option maxRecDepth 100000 in
set_option maxHeartbeats 40000000 in
theorem entries_any (x:PV) (S:Nat→Prop) (w:World) (ks vs:Value) (hI:IsV S w x ks vs) (hS:∀ k,S k→k < w.heap.size) :
  Calls Tryz.prog 26 #[valOf x ks vs] w fun e w'=>e=.returned (.int .i64 (nnz (kidsV x):Nat))∧w.grownBy w' none:=by
 obtain ⟨ko,kc,vo,vc,rfl,rfl,-,hmx,-,hv⟩:=hI.view
 unfold valOf
 obtain ⟨kids,hk⟩:∃ l,l=kidsV x:=⟨_,rfl⟩
 rw [←hk] at hv hmx ⊢
 obtain ⟨N,hN⟩:∃ N,N=kids.length:=⟨_,rfl⟩
 rw [←hN] at hv hmx ⊢
 generalize pvKind x=k1
 generalize pvInt x=k2
 generalize pvGen x=k3
 generalize pvReal x=k4
 generalize (⟨(pvText x).toArray⟩:ByteArray)=k5
 generalize (keysV x).length=kn
 clear hk hI x
 have Hv:=Lib.hid hv
 have HN:=Lib.hid hN
 have HS:=Lib.hid hS
 have hM:N≤9223372036854775807:=by unfold maxLen at hmx;omega
 clear hv hN hS hmx
 go_enter Tryz.func26,Tryz.ntmps26
 go_wp2_with fail
 go_loopg [3,9] N (fun g t3 t9 wr=>∃ i,t9=.int .i64 (i:Nat)∧t3=.int .i64 (nnz (kids.take i):Nat)∧g=N - i∧i≤N∧w.grownBy wr none)
 case atStart=>exact ⟨0,rfl,rfl,rfl,Nat.zero_le _,gr_alloc (World.grownBy.refl w none) _⟩
 case round =>
  obtain ⟨i,rfl,rfl,hg,hi,hgw⟩:=hrel
  have Hgw:=Lib.hid hgw
  have Hg:=Lib.hid hg
  clear hgw hg
  by_cases hiN:i < N
  ·rcases Hv.out with h0 | ⟨b0,i0,rfl,hSb,hcells⟩
   ·omega
   obtain ⟨p,hp⟩:∃ p,kids[i]?=some p:=⟨_,List.getElem?_eq_getElem (by rw [←HN.out];exact hiN)⟩
   obtain ⟨ksi,vsi,hIi,hci⟩:=hcells i p hp
   obtain ⟨⟨kso,ksn,ksc,rfl⟩,⟨vso,vsn,vsc,rfl⟩⟩:=hIi.slices
   have hblk:=Hgw.out.block b0 (HS.out b0 hSb) (by simp)
   have hcc:∀ j u,(c7 p (.slice kso ksn ksc) (.slice vso vsn vsc))[j]?=some u→wr.cell? ⟨b0,i0 + i * 7 + j,none⟩=some u:=fun j u hj=>(World.cell?_of_block hblk).trans (hci j u hj)
   have e0:wr.cell? ⟨b0,i0 + i * 7,none⟩=_:=hcc 0 _ rfl
   have e1:=hcc 1 _ rfl
   have e2:=hcc 2 _ rfl
   have e3:=hcc 3 _ rfl
   have e4:=hcc 4 _ rfl
   have e5:=hcc 5 _ rfl
   have e6:=hcc 6 _ rfl
   have hkn:=kind_null p
   have hnz:=nnz_take hp
   have hle:=nnz_le (kids.take i)
   have hle2:=nnz_le (kids.take (i + 1))
   rw [List.length_take] at hle hle2
   have hnm:(i:Int) < N:=by omega
   generalize pvKind p=p1 at *
   generalize pvInt p=p2 at *
   generalize pvGen p=p3 at *
   generalize pvReal p=p4 at *
   generalize (⟨(pvText p).toArray⟩:ByteArray)=p5 at *
   obtain ⟨c,hc⟩:∃ c,c=nnz (kids.take i):=⟨_,rfl⟩
   obtain ⟨c',hc'⟩:∃ c',c'=nnz (kids.take (i + 1)):=⟨_,rfl⟩
   rw [←hc,←hc'] at hnz
   rw [←hc] at hle ⊢
   rw [←hc'] at hle2
   have Hc':=Lib.hid hc'
   have hal:=gr_alloc (World.grownBy.refl wr none) (.cells #[.int .i64 p1,.int .i64 p2,.int .i64 p3,.float .f64 p4,.string p5,.slice kso ksn ksc,.slice vso vsn vsc] 30)
   have Hal:=Lib.hid (Hgw.out.trans hal)
   clear hcc hIi hci hp hcells hblk hal hc hc'
   have hwi:IntKind.i64.wrap ((i:Int) + 1)=(i:Int) + 1:=IntWalk.i64_in _ (by omega)
   have hwc:IntKind.i64.wrap ((c:Int) + 1)=(c:Int) + 1:=IntWalk.i64_in _ (by omega)
   cases hnl:p.isNull
   all_goals
    rw [hnl] at hkn hnz
    simp only [Bool.not_true,Bool.not_false,Bool.false_eq_true,if_false,if_true] at hkn hnz
    have Hnz:=Lib.hid hnz
    clear hnz hnl
    go_wp2_with fail
    go_roundg (N - (i + 1))
    case measure=>rw [Hg.out];omega
    case rel=>exact ⟨i + 1,by simp,by rw [←Hc'.out,Hnz.out];simp,rfl,by omega,Hal.out⟩
  ·obtain rfl:i=N:=by omega
   have htk:kids.take i=kids:=List.take_of_length_le (by have:=HN.out;omega)
   rw [htk]
   clear htk
   go_wp2_with fail
   go_ret
   exact ⟨rfl,Hgw.out⟩
set_option maxRecDepth 100000 in
set_option maxHeartbeats 40000000 in
theorem en_ret {w3:World} {B:Nat} {a0 a1 a2 a3 a4 a5 a6 v0 v1 v2 v3 v4 v5 v6 u5:Value} {tmps:Array Value} {R:Ending→World→Prop} (h2:tmps.getD 4 undef=.pointer (some ⟨B,0,none⟩)) (h3:tmps.getD 5 undef=u5)
  (hz:w3.heap[B]?=some (.cells #[a0,a1,a2,a3,a4,a5,a6] 30 (0,0)))
  (hR:∀ w',(∀ w0 r,World.grownBy w0 w3 r→w0.heap.size≤B→World.grownBy w0 w' r)→R (.returned (.tuple #[.agg #[v0,v1,v2,v3,v4,v5,v6],u5])) w'):bodyPost Tryz.prog Tryz.f27 R Exit.ret { tmps:=tmps,defers:=[] } (set7 w3 B v0 v1 v2 v3 v4 v5 v6).drew:=by
 have hz4:=set7_at hz v0 v1 v2 v3 v4 v5 v6
 have hR4:=hR (set7 w3 B v0 v1 v2 v3 v4 v5 v6).drew (fun w0 r hg hB=>gr_drew (set7_gr hg hB v0 v1 v2 v3 v4 v5 v6))
 generalize set7 w3 B v0 v1 v2 v3 v4 v5 v6=w4 at *
 have hz5:w4.drew.heap[B]?=some (.cells #[v0,v1,v2,v3,v4,v5,v6] 30 (0,0)):=hz4
 obtain ⟨y0,y1,y2,y3,y4,y5,y6,yf⟩:=cells7 hz5
 simp only [Array.getD_eq_getD_getElem?] at h2 h3
 exact bodyPost_ret (v:=.tuple #[.agg #[v0,v1,v2,v3,v4,v5,v6],u5]) (by simp [results,Tryz.results27,go_sem,h2,h3,y0,y1,y2,y3,y4,y5,y6]) rfl hR4
def EnPost (S:Nat→Prop) (w w':World) (p:PV) (e:Ending):Prop:=∃ ks' vs',e=.returned (.tuple #[valOf p ks' vs',.bool (!p.isNull)])∧IsV S w p ks' vs'∧w.grownBy w' none
set_option maxRecDepth 100000 in
set_option maxHeartbeats 40000000 in
theorem entry_any (x:PV) (S:Nat→Prop) (w:World) (ks vs:Value) (key:By) (hI:IsV S w x ks vs) (hS:∀ k,S k→k < w.heap.size) (j:Nat) (p:PV) (hj:(keysV x)[j]?=some key) (hfirst:∀ j':Nat,j' < j→(keysV x)[j']?≠some key) (hp:(kidsV x)[j]?=some p) :
  Calls Tryz.prog 27 #[valOf x ks vs,.string ⟨key.toArray⟩] w fun e w'=>EnPost S w w' p e:=by
 obtain ⟨ko,kc,vo,vc,rfl,rfl,hmk,hmx,hkv,hv⟩:=hI.view
 unfold valOf
 obtain ⟨keys,hk⟩:∃ l,l=keysV x:=⟨_,rfl⟩
 obtain ⟨kids,hd⟩:∃ l,l=kidsV x:=⟨_,rfl⟩
 rw [←hk] at hkv hmk hj hfirst ⊢
 rw [←hd] at hv hmx hp ⊢
 have hjk:=(List.getElem?_eq_some_iff.1 hj).1
 have hjv:=(List.getElem?_eq_some_iff.1 hp).1
 rcases hkv with h0 | ⟨bk,ik,rfl,hSk,hkc⟩
 ·omega
 rcases hv with h0 | ⟨b0,i0,rfl,hSb,hcells⟩
 ·omega
 obtain ⟨ksi,vsi,hIi,hci⟩:=hcells j p hp
 obtain ⟨⟨kso,ksn,ksc,rfl⟩,⟨vso,vsn,vsc,rfl⟩⟩:=hIi.slices
 obtain ⟨N,hN⟩:∃ N,N=kids.length:=⟨_,rfl⟩
 obtain ⟨M,hM⟩:∃ M,M=keys.length:=⟨_,rfl⟩
 have hM2:M≤9223372036854775807:=by unfold maxLen at hmk;omega
 have hkx:∀ i:Nat,i < M→∃ kt:ByteArray,w.cell? ⟨bk,ik + i,none⟩=some (.string kt)∧(i < j→(kt.toList == (⟨key.toArray⟩:ByteArray).toList)=false)∧(i=j→kt=⟨key.toArray⟩):=by
  intro i hi
  obtain ⟨q,hq⟩:∃ q,keys[i]?=some q:=⟨_,List.getElem?_eq_getElem (by omega)⟩
  refine ⟨⟨q.toArray⟩,hkc i _ (by simp [kvals,hq]),fun h=>?_,fun h=>?_⟩
  ·rw [ByteArray.toList_eq,ByteArray.toList_eq]
   simp only [beq_eq_false_iff_ne]
   intro e
   exact hfirst i h (by rw [hq];exact congrArg some (by simpa using e))
  ·subst h
   rw [hj] at hq
   injection hq with hq
   rw [hq]
 rw [←hM,←hN]
 have hIp:=hIi
 generalize hgx:pvKind x=k1
 generalize pvInt x=k2
 generalize pvGen x=k3
 generalize pvReal x=k4
 generalize (⟨(pvText x).toArray⟩:ByteArray)=k5
 generalize (⟨key.toArray⟩:ByteArray)=kx at hkx ⊢
 obtain ⟨q0,q1⟩:=alloc2 w w.heap.size rfl (.cells #[.int .i64 k1,.int .i64 k2,.int .i64 k3,.float .f64 k4,.string k5,.slice (some ⟨bk,ik,none⟩) M kc,.slice (some ⟨b0,i0,none⟩) N vc] 30) (.cells #[.int .i64 0,.int .i64 0,.int .i64 0,.float .f64 0,.string ⟨#[]⟩,.slice none 0 0,.slice none 0 0] 30)
 have hGW:w.grownBy ((w.alloc (.cells #[.int .i64 k1,.int .i64 k2,.int .i64 k3,.float .f64 k4,.string k5,.slice (some ⟨bk,ik,none⟩) M kc,.slice (some ⟨b0,i0,none⟩) N vc] 30)).alloc (.cells #[.int .i64 0,.int .i64 0,.int .i64 0,.float .f64 0,.string ⟨#[]⟩,.slice none 0 0,.slice none 0 0] 30)) none:=gr_alloc (gr_alloc (World.grownBy.refl w none) _) _
 obtain ⟨W,hW⟩:∃ W,W=((w.alloc (.cells #[.int .i64 k1,.int .i64 k2,.int .i64 k3,.float .f64 k4,.string k5,.slice (some ⟨bk,ik,none⟩) M kc,.slice (some ⟨b0,i0,none⟩) N vc] 30)).alloc (.cells #[.int .i64 0,.int .i64 0,.int .i64 0,.float .f64 0,.string ⟨#[]⟩,.slice none 0 0,.slice none 0 0] 30)):=⟨_,rfl⟩
 rw [←hW] at q0 q1 hGW
 have hbk:=hGW.block bk (hS bk hSk) (by simp)
 have hblk:=hGW.block b0 (hS b0 hSb) (by simp)
 have hcc:∀ m u,(c7 p (.slice kso ksn ksc) (.slice vso vsn vsc))[m]?=some u→W.cell? ⟨b0,i0 + j * 7 + m,none⟩=some u:=fun m u hm=>(World.cell?_of_block hblk).trans (hci m u hm)
 have e0:W.cell? ⟨b0,i0 + j * 7,none⟩=_:=hcc 0 _ rfl
 have e1:=hcc 1 _ rfl
 have e2:=hcc 2 _ rfl
 have e3:=hcc 3 _ rfl
 have e4:=hcc 4 _ rfl
 have e5:=hcc 5 _ rfl
 have e6:=hcc 6 _ rfl
 have hkn:=kind_null p
 have HIp:=Lib.hid hIp
 have HGW:=Lib.hid hGW
 have Hkx:=Lib.hid (show ∀ i:Nat,i < M→∃ kt:ByteArray,W.cell? ⟨bk,ik + i,none⟩=some (.string kt)∧(i < j→(kt.toList == kx.toList)=false)∧(i=j→kt=kx) from fun i hi=>by
  obtain ⟨kt,h1,h2,h3⟩:=hkx i hi
  exact ⟨kt,(World.cell?_of_block hbk).trans h1,h2,h3⟩)
 have hne1:¬b0=w.heap.size + 1:=by have:=hS b0 hSb;omega
 have hne2:¬w.heap.size + 1=b0:=fun e=>hne1 e.symm
 have hjM:j < M:=by omega
 have hjN:j < N:=by omega
 have hN2:N≤9223372036854775807:=by unfold maxLen at hmx;omega
 have HQ1:=Lib.hid q1
 obtain ⟨z0,z1,z2,z3,z4,z5,z6,zf⟩:=cells7 q0
 unfold EnPost valOf
 generalize hp1:pvKind p=p1 at *
 generalize pvInt p=p2 at *
 generalize pvGen p=p3 at *
 generalize pvReal p=p4 at *
 generalize (⟨(pvText p).toArray⟩:ByteArray)=p5 at *
 clear hIi hci hcells hcc hkx hbk hblk hIp hI hj hfirst hp hgx hGW hjk hjv hM hN hd hk hkc hSk hSb hS q0 q1 hmk hmx hp1
 go_enter Tryz.func27,Tryz.ntmps27
 go_wp2_with fail
 rw [←hW]
 clear hW
 go_loopg [11] (j + 1) (fun g t11 wr=>∃ i,t11=.int .i64 (i:Nat)∧g=j + 1 - i∧i≤j∧wr=W)
 case atStart=>exact ⟨0,rfl,rfl,Nat.zero_le _,rfl⟩
 case round =>
  obtain ⟨i,rfl,hg,hi,rfl⟩:=hrel
  have Hg:=Lib.hid hg
  clear hg
  obtain ⟨kt,d0,hne,heq⟩:=Hkx.out i (by omega)
  have hnm:(i:Int) < M:=by omega
  by_cases hij:i=j
  ·obtain rfl:=heq hij
   subst hij
   clear hne heq
   obtain ⟨r0,r1,r2,r3,r4,r5,r6,rf⟩:=cells7 HQ1.out
   cases hnl:p.isNull
   all_goals
    rw [hnl] at hkn
    simp only [Bool.not_true,Bool.not_false] at hkn
    go_wp2_with fail
    go_region
    go_wp2_with fail
    refine en_ret rfl rfl HQ1.out ?_
    intro w' hgr
    exact ⟨_,_,by rw [hnl];rfl,HIp.out,hgr _ _ HGW.out (by omega)⟩
  ·have hne:=hne (by omega)
   have hwi:IntKind.i64.wrap ((i:Int) + 1)=(i:Int) + 1:=IntWalk.i64_in _ (by omega)
   clear heq
   go_wp2_with fail
   go_roundg (j + 1 - (i + 1))
   case measure=>rw [Hg.out];omega
   case rel=>exact ⟨i + 1,by simp,rfl,by omega,rfl⟩
end Go.Proofs.YtfkecmlmnhbmoaaGreatDoor
namespace Go.Proofs.YtfkecmlmnhbmoaaGreatDoor
open Go Go.RowKit
open Go.Lib
theorem itoa_len' (n:Int) (h0:-9223372036854775808≤n) (h1:n≤9223372036854775807):(Lib.itoa n).length≤1000:=by
 have:=Lib.itoa_length_le n h0 h1
 omega
set_option maxRecDepth 100000 in
set_option maxHeartbeats 40000000 in
theorem pref (n g:Int) (h0:-9223372036854775808≤n) (h1:n≤9223372036854775807) (k0:-9223372036854775808≤g) (k1:g≤9223372036854775807) (W0 w:World) (hT:TabIs Tryz.prog W0 "internal/strconv.uint64pow10" .u64 pow10Tab) (hE:Env W0 w):Calls Tryz.prog 285 #[.agg #[.int .i64 n,.int .i64 g]] w fun e w'=>e=.returned (.string (bs (Lib.itoa n ++ 32::(Lib.itoa g ++ [32,82]))))∧w.grownBy w' none:=by
 have e1:(⟨#[32]⟩:ByteArray)=bs [32]:=rfl
 have e2:(⟨#[32,82]⟩:ByteArray)=bs [32,82]:=rfl
 have l1:=itoa_len' n h0 h1
 have l2:=itoa_len' g k0 k1
 have Hn:=Lib.hid (fun w2 (hg:w.grownBy w2 none)=>itoa_any n h0 h1 W0 w2 hT (hE.grown0 hg))
 have Hg:=Lib.hid (fun w2 (hg:w.grownBy w2 none)=>itoa_any g k0 k1 W0 w2 hT (hE.grown0 hg))
 have a1:bs (Lib.itoa n) ++ bs [32]=bs (Lib.itoa n ++ [32]):=bs_app _ _
 have a2:bs (Lib.itoa n ++ [32]) ++ bs (Lib.itoa g)=bs (Lib.itoa n ++ [32] ++ Lib.itoa g):=bs_app _ _
 have a3:bs (Lib.itoa n ++ [32] ++ Lib.itoa g) ++ bs [32,82]=bs (Lib.itoa n ++ 32::(Lib.itoa g ++ [32,82])):=by rw [bs_app];simp
 have z1:¬9223372036854775807 < (bs (Lib.itoa n)).size + (bs [32]).size:=by rw [bs_size,bs_size];simp;omega
 have z2:¬9223372036854775807 < (bs (Lib.itoa n ++ [32])).size + (bs (Lib.itoa g)).size:=by rw [bs_size,bs_size];simp;omega
 have z3:¬9223372036854775807 < (bs (Lib.itoa n ++ [32] ++ Lib.itoa g)).size + (bs [32,82]).size:=by rw [bs_size,bs_size];simp;omega
 generalize bs (Lib.itoa n ++ 32::(Lib.itoa g ++ [32,82]))=s4 at *
 generalize bs (Lib.itoa n ++ [32] ++ Lib.itoa g)=s3 at *
 generalize bs (Lib.itoa n ++ [32])=s2 at *
 generalize bs (Lib.itoa n)=s0 at *
 generalize bs (Lib.itoa g)=s1 at *
 clear hT hE l1 l2 h0 h1 k0 k1
 go_enter Tryz.func285,Tryz.ntmps285
 go_upto_region 1 with (fail)
 obtain ⟨Wa,hWa⟩:∃ Wa,Wa=w.alloc (.cells #[.int .i64 n,.int .i64 g] 73):=⟨_,rfl⟩
 have c0:Wa.cell? ⟨w.heap.size,0,none⟩=some (.int .i64 n):=by rw [hWa];exact cell_two_new _ _ _ _ 0 _ rfl
 have c1:Wa.cell? ⟨w.heap.size,1,none⟩=some (.int .i64 g):=by rw [hWa];exact cell_two_new _ _ _ _ 1 _ rfl
 have hgw:w.grownBy Wa none:=by rw [hWa];exact gr_alloc (World.grownBy.refl _ _) _
 have HG:=Lib.hid hgw
 have hsz:w.heap.size < Wa.heap.size:=by rw [hWa];simp
 rw [←hWa]
 clear hWa hgw
 go_wp2_with fail
 go_region_law
  (first
   | (go_simp;go_at_call 110;refine (Hn.out _ (by first | exact HG.out | exact gr_drew HG.out | exact gr_drewN HG.out _)).mono ?_;rintro e w2 ⟨rfl,hg2⟩;have Hgw:=Lib.hid (show Wa.grownBy w2 none from by first | exact hg2 | exact (gr_drew (World.grownBy.refl _ _)).trans hg2 | exact (gr_drewN (World.grownBy.refl _ _) _).trans hg2);have Hc1:=Lib.hid ((World.cell?_of_block (Hgw.out.block _ hsz (by simp))).trans c1);have d1:=Hc1.out;have HG2:=Lib.hid (HG.out.trans Hgw.out);clear hg2)
   | (go_simp;go_at_call 110;refine (Hg.out _ (by first | exact HG2.out | exact gr_drew HG2.out | exact gr_drewN HG2.out _)).mono ?_;rintro e w3 ⟨rfl,hg3⟩;have HG3:=Lib.hid (show w.grownBy w3 none from by first | exact HG2.out.trans hg3 | exact (gr_drew HG2.out).trans hg3 | exact (gr_drewN HG2.out _).trans hg3);clear hg3))
 all_goals
  go_wp2_with fail
  go_ret
  exact ⟨rfl,by first | exact HG3.out | exact gr_drew HG3.out | exact gr_drewN HG3.out _⟩
end Go.Proofs.YtfkecmlmnhbmoaaGreatDoor
namespace Go.Proofs.YtfkecmlmnhbmoaaGreatDoor
open Go Go.RowKit
open Go.Maps
set_option maxRecDepth 100000 in
set_option maxHeartbeats 40000000 in
theorem fits2_any (S:Nat→Prop) (w:World) (ko:Option Addr) (kc:Nat) (keys:List By) (hK:KeyAt S w ko keys) (hn:keys.length≤1048576) (hkc:keys.length≤kc) (hk:∀ k∈keys,k.length≤1048576) :
  Calls Tryz.prog 16 #[.slice ko keys.length kc] w fun e w'=>e=.returned (.bool true)∧w'=w:=by
 obtain ⟨KN,hKN⟩:∃ N,N=keys.length:=⟨_,rfl⟩
 rw [←hKN] at hn hkc ⊢
 have HKN:=Lib.hid hKN
 have HK:=Lib.hid hK
 have Hk:=Lib.hid hk
 clear hKN hK hk
 go_enter Tryz.func16,Tryz.ntmps16
 go_wp2_with fail
 go_loopg [10] KN (fun g t10 wr=>∃ (i:Nat),t10=.int .i64 (i:Nat)∧i≤KN∧g=KN - i∧w=wr)
 case atStart=>exact ⟨0,rfl,Nat.zero_le _,rfl,rfl⟩
 case round =>
  obtain ⟨i,rfl,hi,hg,rfl⟩:=hrel
  have Hg:=Lib.hid hg
  clear hg
  by_cases hin:i < KN
  ·have hnm:(i:Int) < KN:=by omega
   have hwi:IntKind.i64.wrap ((i:Int) + 1)=(i:Int) + 1:=IntWalk.i64_in _ (by omega)
   obtain ⟨k,hk⟩:∃ k,keys[i]?=some k:=⟨_,List.getElem?_eq_getElem (by rw [←HKN.out];exact hin)⟩
   obtain ⟨b0,i0,hko,hSb,hkc2⟩:=HK.out i k hk
   subst hko
   have hzk:(bs k).size≤1048576:=by rw [bs_size];exact Hk.out k (List.mem_of_getElem? hk)
   generalize bs k=zk at *
   have hz2:¬(2147483647:Int) < zk.size:=by omega
   clear hk hSb
   go_wp2_with fail
   go_roundg (KN - (i + 1))
   case measure=>rw [Hg.out];omega
   case rel=>exact ⟨i + 1,by simp,by omega,rfl,rfl⟩
  ·obtain rfl:i=KN:=by omega
   have hnm:¬(i:Int) < i:=by omega
   go_wp2_with fail
   go_ret
   exact ⟨rfl,rfl⟩
set_option maxRecDepth 100000 in
set_option maxHeartbeats 40000000 in
theorem fits1_any (o:OB) (S:Nat→Prop) (w:World) (ks vs:Value) (hbk:bkB o≤1048576) (hI:IsB S w o ks vs) (hS:∀ k,S k→k < w.heap.size) :
  Calls Tryz.prog 6 #[obV o ks vs] w fun e w'=>e=.returned (.bool true)∧w.grownBy w' none:=by
 obtain ⟨ko,kc,vo,vc,rfl,rfl,hm1,hm2,hm3,hm4,hK,hV⟩:=hI.view
 have hkl:=bk_keys o
 have hvl:=bk_kids o
 have htl:=bk_text o
 have h2:=fun (w2:World) (hg:w.grownBy w2 none)=>fits2_any S w2 ko kc o.keys (hK.keep (fun k hk=>⟨hk,hg.block k (hS k hk) (by simp)⟩)) (by omega) hm3 (fun k hk=>by have:=bk_key hk;omega)
 have hz:(bs o.t).size≤1048576:=by rw [bs_size];omega
 unfold obV
 have H2:=Lib.hid h2
 have hk1:o.keys.length≤1048576:=by omega
 have hv1:o.kids.length≤1048576:=by omega
 clear hK hV hkl hvl htl h2 hS hI hm1 hm2 hbk
 generalize o.k=k1 at *
 generalize o.i=k2 at *
 generalize o.g=k3 at *
 generalize o.r=k4 at *
 generalize bs o.t=z at *
 generalize o.keys.length=KN at *
 generalize o.kids.length=VN at *
 have hz2:¬(2147483647:Int) < z.size:=by omega
 have hz3:¬(2147483647:Int) < VN:=by omega
 have hg0:=Lib.hid (gr_alloc (World.grownBy.refl w none) (.cells #[.int .i64 k1,.int .i64 k2,.int .i64 k3,.float .f64 k4,.string z,.slice ko KN kc,.slice vo VN vc] 26))
 go_enter Tryz.func6,Tryz.ntmps6
 go_wp2_with fail
 refine (H2.out _ hg0.out).mono ?_
 rintro e w1 ⟨rfl,hw⟩
 subst w1
 go_wp2_with fail
 go_ret
 exact ⟨rfl,hg0.out⟩
end Go.Proofs.YtfkecmlmnhbmoaaGreatDoor
