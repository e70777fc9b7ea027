/- FnParse: the texts L1 L3 of the workbench, laid together. -/
import Derived.Test.YtfkecmlmnhbmoaaGreatDoorProg
import Derived.WalkKit
import Derived.WalkLawsBesides
import Derived.WalkSpells
import Derived.BigQuiet
import Derived.BigRegion
import Derived.Deep.QuietTactic
import Derived.Deep.RegionHeld3
import Derived.Deep.LoopGhost
import Derived.StillTailTactics
import Derived.Lib.Hide
import Derived.Laws.EntriesVeiled
import Derived.Test.YtfkecmlmnhbmoaaGreatDoorZ18
import Derived.Test.YtfkecmlmnhbmoaaGreatDoorZ31
import Derived.Test.YtfkecmlmnhbmoaaGreatDoorZ41
set_option linter.unusedVariables false
set_option linter.unusedSimpArgs false
namespace Go.Proofs.YtfkecmlmnhbmoaaGreatDoor
open Go Go.RowKit
open Go.Maps
def kidsV:PV→List PV
  | .arr kids=>kids | .dict _ kids=>kids | _=>[]
def keysV:PV→List By
  | .dict keys _=>keys | _=>[]
theorem IsVs.get {S:Nat→Prop} {w:World} : ∀ (ps:List PV) (c:List Value),IsVs S w ps c→∀ (i:Nat) p,ps[i]?=some p→∃ ks vs,IsV S w p ks vs∧∀ j u,(c7 p ks vs)[j]?=some u→c[i * 7 + j]?=some u
  | [],c,h,i,p,hi=>by simp at hi
  | q :: ps, c, h, i, p, hi => by
    simp only [IsVs] at h
    obtain ⟨ks,vs,rest,h1,h2,h3⟩:=h
    subst h1
    cases i with
    | zero =>
      simp at hi;subst hi
      refine ⟨ks,vs,h2,fun j u hj=>?_⟩
      rw [List.getElem?_append_left (by have:=(List.getElem?_eq_some_iff.1 hj).1;omega)]
      simpa using hj
    | succ i =>
      obtain ⟨ks',vs',h4,h5⟩:=IsVs.get ps rest h3 i p (by simpa using hi)
      refine ⟨ks',vs',h4,fun j u hj=>?_⟩
      have hl:(c7 q ks vs).length=7:=rfl
      rw [List.getElem?_append_right (by omega),hl,show (i + 1) * 7 + j - 7=i * 7 + j by omega]
      exact h5 j u hj
theorem IsV.view {S:Nat→Prop} {w:World} {x:PV} {ks vs:Value} (h:IsV S w x ks vs):∃ ko kc vo vc,ks=.slice ko (keysV x).length kc∧vs=.slice vo (kidsV x).length vc∧(keysV x).length≤maxLen∧(kidsV x).length≤maxLen ∧
    ((keysV x).length=0∨∃ b i,ko=some ⟨b,i,none⟩∧S b∧∀ j u,(kvals (keysV x))[j]?=some u→w.cell? ⟨b,i + j,none⟩=some u) ∧
    ((kidsV x).length=0∨∃ b i,vo=some ⟨b,i,none⟩∧S b∧∀ j p,(kidsV x)[j]?=some p→∃ ks' vs',IsV S w p ks' vs'∧∀ m u,(c7 p ks' vs')[m]?=some u→w.cell? ⟨b,i + j * 7 + m,none⟩=some u):=by
  have kid:∀ (kids:List PV) (cells:List Value),IsVs S w kids cells→∀ vs,SlAt S w vs 7 kids.length cells→∃ vo vc,vs=.slice vo kids.length vc∧kids.length≤maxLen∧(kids.length=0∨∃ b i,vo=some ⟨b,i,none⟩∧S b∧∀ j p,kids[j]?=some p→∃ ks' vs',IsV S w p ks' vs'∧∀ m u,(c7 p ks' vs')[m]?=some u→w.cell? ⟨b,i + j * 7 + m,none⟩=some u):=by
    intro kids cells hI vs hs
    obtain ⟨_,o,c,rfl,h1,h2,h3⟩:=hs
    refine ⟨o,c,rfl,Nat.le_trans h1 h2,?_⟩
    rcases h3 with h3 | ⟨b,i,rfl,hb,hc⟩
    · exact .inl h3
    · refine .inr ⟨b,i,rfl,hb,fun j p hj=>?_⟩
      obtain ⟨ks',vs',h4,h5⟩:=IsVs.get kids cells hI j p hj
      exact ⟨ks',vs',h4,fun m u hm=>by rw [Nat.add_assoc];exact hc _ u (h5 m u hm)⟩
  have key:∀ (keys:List By) (ks:Value),SlAt S w ks 1 keys.length (kvals keys)→∃ ko kc,ks=.slice ko keys.length kc∧keys.length≤maxLen∧(keys.length=0∨∃ b i,ko=some ⟨b,i,none⟩∧S b∧∀ j u,(kvals keys)[j]?=some u→w.cell? ⟨b,i + j,none⟩=some u):=by
    intro keys ks hs
    obtain ⟨_,o,c,rfl,h1,h2,h3⟩:=hs
    exact ⟨o,c,rfl,Nat.le_trans h1 h2,h3⟩
  cases x
  case arr kids =>
    simp only [IsV] at h
    obtain ⟨h1,cells,h2,h3⟩:=h
    obtain ⟨vo,vc,rfl,a1,a2⟩:=kid kids cells h3 vs h2
    obtain ⟨ko,kc,rfl,b1,b2⟩:=key [] ks h1
    exact ⟨ko,kc,vo,vc,rfl,rfl,b1,a1,b2,a2⟩
  case dict keys kids =>
    simp only [IsV] at h
    obtain ⟨h1,cells,h2,h3⟩:=h
    obtain ⟨vo,vc,rfl,a1,a2⟩:=kid kids cells h3 vs h2
    obtain ⟨ko,kc,rfl,b1,b2⟩:=key keys ks h1
    exact ⟨ko,kc,vo,vc,rfl,rfl,b1,a1,b2,a2⟩
  all_goals
    simp only [IsV] at h
    obtain ⟨vo,vc,rfl,a1,a2⟩:=kid [] [] (by simp [IsVs]) vs h.2
    obtain ⟨ko,kc,rfl,b1,b2⟩:=key [] ks h.1
    exact ⟨ko,kc,vo,vc,rfl,rfl,b1,a1,b2,a2⟩
theorem kind_null (x:PV):(pvKind x != 0)=!x.isNull:=by cases x<;>rfl
theorem nnz_take {l:List PV} {i:Nat} {p:PV} (h:l[i]?=some p):nnz (l.take (i + 1))=nnz (l.take i) + (if p.isNull then 0 else 1):=by
  rw [List.take_add_one,h]
  unfold nnz
  rw [List.filter_append,List.length_append]
  cases hp:p.isNull<;>simp [hp]
theorem nnz_le (l:List PV):nnz l≤l.length:=List.length_filter_le _ _
set_option maxRecDepth 100000 in
set_option maxHeartbeats 40000000 in
theorem entries_any (x:PV) (S:Nat→Prop) (w:World) (ks vs:Value) (hI:IsV S w x ks vs) (hS:∀ k,S k→k < w.heap.size) :
    Calls Tryz.prog 26 #[valOf x ks vs] w fun e w'=>e=.returned (.int .i64 (nnz (kidsV x):Nat))∧w.grownBy w' none:=by
  obtain ⟨ko,kc,vo,vc,rfl,rfl,-,hmx,-,hv⟩:=hI.view
  unfold valOf
  obtain ⟨kids,hk⟩:∃ l,l=kidsV x:=⟨_,rfl⟩
  rw [←hk] at hv hmx ⊢
  obtain ⟨N,hN⟩:∃ N,N=kids.length:=⟨_,rfl⟩
  rw [←hN] at hv hmx ⊢
  generalize pvKind x=k1
  generalize pvInt x=k2
  generalize pvGen x=k3
  generalize pvReal x=k4
  generalize (⟨(pvText x).toArray⟩:ByteArray)=k5
  generalize (keysV x).length=kn
  clear hk hI x
  have Hv:=Lib.hid hv
  have HN:=Lib.hid hN
  have HS:=Lib.hid hS
  have hM:N≤9223372036854775807:=by unfold maxLen at hmx;omega
  clear hv hN hS hmx
  go_enter Tryz.func26,Tryz.ntmps26
  go_wp2_with fail
  go_loopg [3,9] N (fun g t3 t9 wr=>∃ i,t9=.int .i64 (i:Nat)∧t3=.int .i64 (nnz (kids.take i):Nat)∧g=N - i∧i≤N∧w.grownBy wr none)
  case atStart=>exact ⟨0,rfl,rfl,rfl,Nat.zero_le _,gr_alloc (World.grownBy.refl w none) _⟩
  case round =>
    obtain ⟨i,rfl,rfl,hg,hi,hgw⟩:=hrel
    have Hgw:=Lib.hid hgw
    have Hg:=Lib.hid hg
    clear hgw hg
    by_cases hiN:i < N
    · rcases Hv.out with h0 | ⟨b0,i0,rfl,hSb,hcells⟩
      · omega
      obtain ⟨p,hp⟩:∃ p,kids[i]?=some p:=⟨_,List.getElem?_eq_getElem (by rw [←HN.out];exact hiN)⟩
      obtain ⟨ksi,vsi,hIi,hci⟩:=hcells i p hp
      obtain ⟨⟨kso,ksn,ksc,rfl⟩,⟨vso,vsn,vsc,rfl⟩⟩:=hIi.slices
      have hblk:=Hgw.out.block b0 (HS.out b0 hSb) (by simp)
      have hcc:∀ j u,(c7 p (.slice kso ksn ksc) (.slice vso vsn vsc))[j]?=some u→wr.cell? ⟨b0,i0 + i * 7 + j,none⟩=some u:=fun j u hj=>(World.cell?_of_block hblk).trans (hci j u hj)
      have e0:wr.cell? ⟨b0,i0 + i * 7,none⟩=_:=hcc 0 _ rfl
      have e1:=hcc 1 _ rfl
      have e2:=hcc 2 _ rfl
      have e3:=hcc 3 _ rfl
      have e4:=hcc 4 _ rfl
      have e5:=hcc 5 _ rfl
      have e6:=hcc 6 _ rfl
      have hkn:=kind_null p
      have hnz:=nnz_take hp
      have hle:=nnz_le (kids.take i)
      have hle2:=nnz_le (kids.take (i + 1))
      rw [List.length_take] at hle hle2
      have hnm:(i:Int) < N:=by omega
      generalize pvKind p=p1 at *
      generalize pvInt p=p2 at *
      generalize pvGen p=p3 at *
      generalize pvReal p=p4 at *
      generalize (⟨(pvText p).toArray⟩:ByteArray)=p5 at *
      obtain ⟨c,hc⟩:∃ c,c=nnz (kids.take i):=⟨_,rfl⟩
      obtain ⟨c',hc'⟩:∃ c',c'=nnz (kids.take (i + 1)):=⟨_,rfl⟩
      rw [←hc,←hc'] at hnz
      rw [←hc] at hle ⊢
      rw [←hc'] at hle2
      have Hc':=Lib.hid hc'
      have hal:=gr_alloc (World.grownBy.refl wr none) (.cells #[.int .i64 p1,.int .i64 p2,.int .i64 p3,.float .f64 p4,.string p5,.slice kso ksn ksc,.slice vso vsn vsc] 30)
      have Hal:=Lib.hid (Hgw.out.trans hal)
      clear hcc hIi hci hp hcells hblk hal hc hc'
      have hwi:IntKind.i64.wrap ((i:Int) + 1)=(i:Int) + 1:=IntWalk.i64_in _ (by omega)
      have hwc:IntKind.i64.wrap ((c:Int) + 1)=(c:Int) + 1:=IntWalk.i64_in _ (by omega)
      cases hnl:p.isNull
      all_goals
        rw [hnl] at hkn hnz
        simp only [Bool.not_true,Bool.not_false,Bool.false_eq_true,if_false,if_true] at hkn hnz
        have Hnz:=Lib.hid hnz
        clear hnz hnl
        go_wp2_with fail
        go_roundg (N - (i + 1))
        case measure=>rw [Hg.out];omega
        case rel=>exact ⟨i + 1,by simp,by rw [←Hc'.out,Hnz.out];simp,rfl,by omega,Hal.out⟩
    · obtain rfl:i=N:=by omega
      have htk:kids.take i=kids:=List.take_of_length_le (by have:=HN.out;omega)
      rw [htk]
      clear htk
      go_wp2_with fail
      go_ret
      exact ⟨rfl,Hgw.out⟩
set_option maxRecDepth 100000 in
set_option maxHeartbeats 40000000 in
theorem en_ret {w3:World} {B:Nat} {a0 a1 a2 a3 a4 a5 a6 v0 v1 v2 v3 v4 v5 v6 u5:Value} {tmps:Array Value} {R:Ending→World→Prop} (h2:tmps.getD 4 undef=.pointer (some ⟨B,0,none⟩)) (h3:tmps.getD 5 undef=u5)
    (hz:w3.heap[B]?=some (.cells #[a0,a1,a2,a3,a4,a5,a6] 30 (0,0)))
    (hR:∀ w',(∀ w0 r,World.grownBy w0 w3 r→w0.heap.size≤B→World.grownBy w0 w' r)→R (.returned (.tuple #[.agg #[v0,v1,v2,v3,v4,v5,v6],u5])) w'):bodyPost Tryz.prog Tryz.f27 R Exit.ret { tmps:=tmps,defers:=[] } (set7 w3 B v0 v1 v2 v3 v4 v5 v6).drew:=by
  have hz4:=set7_at hz v0 v1 v2 v3 v4 v5 v6
  have hR4:=hR (set7 w3 B v0 v1 v2 v3 v4 v5 v6).drew (fun w0 r hg hB=>gr_drew (set7_gr hg hB v0 v1 v2 v3 v4 v5 v6))
  generalize set7 w3 B v0 v1 v2 v3 v4 v5 v6=w4 at *
  have hz5:w4.drew.heap[B]?=some (.cells #[v0,v1,v2,v3,v4,v5,v6] 30 (0,0)):=hz4
  obtain ⟨y0,y1,y2,y3,y4,y5,y6,yf⟩:=cells7 hz5
  simp only [Array.getD_eq_getD_getElem?] at h2 h3
  exact bodyPost_ret (v:=.tuple #[.agg #[v0,v1,v2,v3,v4,v5,v6],u5]) (by simp [results,Tryz.results27,go_sem,h2,h3,y0,y1,y2,y3,y4,y5,y6]) rfl hR4
def EnPost (S:Nat→Prop) (w w':World) (p:PV) (e:Ending):Prop:=∃ ks' vs',e=.returned (.tuple #[valOf p ks' vs',.bool (!p.isNull)])∧IsV S w p ks' vs'∧w.grownBy w' none
set_option maxRecDepth 100000 in
set_option maxHeartbeats 40000000 in
theorem entry_any (x:PV) (S:Nat→Prop) (w:World) (ks vs:Value) (key:By) (hI:IsV S w x ks vs) (hS:∀ k,S k→k < w.heap.size) (j:Nat) (p:PV) (hj:(keysV x)[j]?=some key) (hfirst:∀ j':Nat,j' < j→(keysV x)[j']?≠some key) (hp:(kidsV x)[j]?=some p) :
    Calls Tryz.prog 27 #[valOf x ks vs,.string ⟨key.toArray⟩] w fun e w'=>EnPost S w w' p e:=by
  obtain ⟨ko,kc,vo,vc,rfl,rfl,hmk,hmx,hkv,hv⟩:=hI.view
  unfold valOf
  obtain ⟨keys,hk⟩:∃ l,l=keysV x:=⟨_,rfl⟩
  obtain ⟨kids,hd⟩:∃ l,l=kidsV x:=⟨_,rfl⟩
  rw [←hk] at hkv hmk hj hfirst ⊢
  rw [←hd] at hv hmx hp ⊢
  have hjk:=(List.getElem?_eq_some_iff.1 hj).1
  have hjv:=(List.getElem?_eq_some_iff.1 hp).1
  rcases hkv with h0 | ⟨bk,ik,rfl,hSk,hkc⟩
  · omega
  rcases hv with h0 | ⟨b0,i0,rfl,hSb,hcells⟩
  · omega
  obtain ⟨ksi,vsi,hIi,hci⟩:=hcells j p hp
  obtain ⟨⟨kso,ksn,ksc,rfl⟩,⟨vso,vsn,vsc,rfl⟩⟩:=hIi.slices
  obtain ⟨N,hN⟩:∃ N,N=kids.length:=⟨_,rfl⟩
  obtain ⟨M,hM⟩:∃ M,M=keys.length:=⟨_,rfl⟩
  have hM2:M≤9223372036854775807:=by unfold maxLen at hmk;omega
  have hkx:∀ i:Nat,i < M→∃ kt:ByteArray,w.cell? ⟨bk,ik + i,none⟩=some (.string kt)∧(i < j→(kt.toList == (⟨key.toArray⟩:ByteArray).toList)=false)∧(i=j→kt=⟨key.toArray⟩):=by
    intro i hi
    obtain ⟨q,hq⟩:∃ q,keys[i]?=some q:=⟨_,List.getElem?_eq_getElem (by omega)⟩
    refine ⟨⟨q.toArray⟩,hkc i _ (by simp [kvals,hq]),fun h=>?_,fun h=>?_⟩
    · rw [ByteArray.toList_eq,ByteArray.toList_eq]
      simp only [beq_eq_false_iff_ne]
      intro e
      exact hfirst i h (by rw [hq];exact congrArg some (by simpa using e))
    · subst h
      rw [hj] at hq
      injection hq with hq
      rw [hq]
  rw [←hM,←hN]
  have hIp:=hIi
  generalize hgx:pvKind x=k1
  generalize pvInt x=k2
  generalize pvGen x=k3
  generalize pvReal x=k4
  generalize (⟨(pvText x).toArray⟩:ByteArray)=k5
  generalize (⟨key.toArray⟩:ByteArray)=kx at hkx ⊢
  obtain ⟨q0,q1⟩:=alloc2 w w.heap.size rfl (.cells #[.int .i64 k1,.int .i64 k2,.int .i64 k3,.float .f64 k4,.string k5,.slice (some ⟨bk,ik,none⟩) M kc,.slice (some ⟨b0,i0,none⟩) N vc] 30) (.cells #[.int .i64 0,.int .i64 0,.int .i64 0,.float .f64 0,.string ⟨#[]⟩,.slice none 0 0,.slice none 0 0] 30)
  have hGW:w.grownBy ((w.alloc (.cells #[.int .i64 k1,.int .i64 k2,.int .i64 k3,.float .f64 k4,.string k5,.slice (some ⟨bk,ik,none⟩) M kc,.slice (some ⟨b0,i0,none⟩) N vc] 30)).alloc (.cells #[.int .i64 0,.int .i64 0,.int .i64 0,.float .f64 0,.string ⟨#[]⟩,.slice none 0 0,.slice none 0 0] 30)) none:=gr_alloc (gr_alloc (World.grownBy.refl w none) _) _
  obtain ⟨W,hW⟩:∃ W,W=((w.alloc (.cells #[.int .i64 k1,.int .i64 k2,.int .i64 k3,.float .f64 k4,.string k5,.slice (some ⟨bk,ik,none⟩) M kc,.slice (some ⟨b0,i0,none⟩) N vc] 30)).alloc (.cells #[.int .i64 0,.int .i64 0,.int .i64 0,.float .f64 0,.string ⟨#[]⟩,.slice none 0 0,.slice none 0 0] 30)):=⟨_,rfl⟩
  rw [←hW] at q0 q1 hGW
  have hbk:=hGW.block bk (hS bk hSk) (by simp)
  have hblk:=hGW.block b0 (hS b0 hSb) (by simp)
  have hcc:∀ m u,(c7 p (.slice kso ksn ksc) (.slice vso vsn vsc))[m]?=some u→W.cell? ⟨b0,i0 + j * 7 + m,none⟩=some u:=fun m u hm=>(World.cell?_of_block hblk).trans (hci m u hm)
  have e0:W.cell? ⟨b0,i0 + j * 7,none⟩=_:=hcc 0 _ rfl
  have e1:=hcc 1 _ rfl
  have e2:=hcc 2 _ rfl
  have e3:=hcc 3 _ rfl
  have e4:=hcc 4 _ rfl
  have e5:=hcc 5 _ rfl
  have e6:=hcc 6 _ rfl
  have hkn:=kind_null p
  have HIp:=Lib.hid hIp
  have HGW:=Lib.hid hGW
  have Hkx:=Lib.hid (show ∀ i:Nat,i < M→∃ kt:ByteArray,W.cell? ⟨bk,ik + i,none⟩=some (.string kt)∧(i < j→(kt.toList == kx.toList)=false)∧(i=j→kt=kx) from fun i hi=>by
    obtain ⟨kt,h1,h2,h3⟩:=hkx i hi
    exact ⟨kt,(World.cell?_of_block hbk).trans h1,h2,h3⟩)
  have hne1:¬b0=w.heap.size + 1:=by have:=hS b0 hSb;omega
  have hne2:¬w.heap.size + 1=b0:=fun e=>hne1 e.symm
  have hjM:j < M:=by omega
  have hjN:j < N:=by omega
  have hN2:N≤9223372036854775807:=by unfold maxLen at hmx;omega
  have HQ1:=Lib.hid q1
  obtain ⟨z0,z1,z2,z3,z4,z5,z6,zf⟩:=cells7 q0
  unfold EnPost valOf
  generalize hp1:pvKind p=p1 at *
  generalize pvInt p=p2 at *
  generalize pvGen p=p3 at *
  generalize pvReal p=p4 at *
  generalize (⟨(pvText p).toArray⟩:ByteArray)=p5 at *
  clear hIi hci hcells hcc hkx hbk hblk hIp hI hj hfirst hp hgx hGW hjk hjv hM hN hd hk hkc hSk hSb hS q0 q1 hmk hmx hp1
  go_enter Tryz.func27,Tryz.ntmps27
  go_wp2_with fail
  rw [←hW]
  clear hW
  go_loopg [11] (j + 1) (fun g t11 wr=>∃ i,t11=.int .i64 (i:Nat)∧g=j + 1 - i∧i≤j∧wr=W)
  case atStart=>exact ⟨0,rfl,rfl,Nat.zero_le _,rfl⟩
  case round =>
    obtain ⟨i,rfl,hg,hi,rfl⟩:=hrel
    have Hg:=Lib.hid hg
    clear hg
    obtain ⟨kt,d0,hne,heq⟩:=Hkx.out i (by omega)
    have hnm:(i:Int) < M:=by omega
    by_cases hij:i=j
    · obtain rfl:=heq hij
      subst hij
      clear hne heq
      obtain ⟨r0,r1,r2,r3,r4,r5,r6,rf⟩:=cells7 HQ1.out
      cases hnl:p.isNull
      all_goals
        rw [hnl] at hkn
        simp only [Bool.not_true,Bool.not_false] at hkn
        go_wp2_with fail
        go_region
        go_wp2_with fail
        refine en_ret rfl rfl HQ1.out ?_
        intro w' hgr
        exact ⟨_,_,by rw [hnl];rfl,HIp.out,hgr _ _ HGW.out (by omega)⟩
    · have hne:=hne (by omega)
      have hwi:IntKind.i64.wrap ((i:Int) + 1)=(i:Int) + 1:=IntWalk.i64_in _ (by omega)
      clear heq
      go_wp2_with fail
      go_roundg (j + 1 - (i + 1))
      case measure=>rw [Hg.out];omega
      case rel=>exact ⟨i + 1,by simp,rfl,by omega,rfl⟩
end Go.Proofs.YtfkecmlmnhbmoaaGreatDoor
namespace Go.Proofs.YtfkecmlmnhbmoaaGreatDoor
open Go Go.RowKit
open Go.Maps
theorem lv_kids (x:PV):lvV x=lvVs (kidsV x) + 1:=by cases x<;>simp [lvV,kidsV,lvVs]
theorem sz_kids (x:PV):szV x=szVs (kidsV x) + 1:=by cases x<;>simp [szV,kidsV,szVs]
set_option maxRecDepth 100000 in
set_option maxHeartbeats 40000000 in
theorem levels_any:∀ (n:Nat),n≤1000000→∀ (x:PV) (S:Nat→Prop) (w:World) (ks vs:Value),lvV x≤n→IsV S w x ks vs→(∀ k,S k→k < w.heap.size) →
    Calls Tryz.prog 20 #[valOf x ks vs] w fun e w'=>e=.returned (.int .i64 (lvV x:Nat))∧w.grownBy w' none:=by
  intro n
  induction n with
  | zero=>intro _ x S w ks vs hl;have:=lvV_pos x;omega
  | succ n ih =>
    intro hn x S w ks vs hl hI hS
    replace ih:=ih (by omega)
    have hlk:=lv_kids x
    obtain ⟨ko,kc,vo,vc,rfl,rfl,-,hmx,-,hv⟩:=hI.view
    unfold valOf
    rw [hlk]
    obtain ⟨kids,hk⟩:∃ l,l=kidsV x:=⟨_,rfl⟩
    rw [←hk] at hv hmx hlk ⊢
    obtain ⟨N,hN⟩:∃ N,N=kids.length:=⟨_,rfl⟩
    rw [←hN] at hv hmx ⊢
    generalize pvKind x=k1
    generalize pvInt x=k2
    generalize pvGen x=k3
    generalize pvReal x=k4
    generalize (⟨(pvText x).toArray⟩:ByteArray)=k5
    generalize (keysV x).length=kn
    have hM:N≤9223372036854775807:=by unfold maxLen at hmx;omega
    have hall:∀ p∈kids,lvV p≤n:=fun p hp=>by have:=lvV_mem hp;omega
    have hL:lvVs kids≤1000000:=by omega
    have Hv:=Lib.hid hv
    have HN:=Lib.hid hN
    have HS:=Lib.hid hS
    have Hall:=Lib.hid hall
    have Hih:=Lib.hid ih
    have HL:=Lib.hid hL
    clear hv hN hS hmx hk hI hall ih hlk hl hL hn x
    go_enter Tryz.func20,Tryz.ntmps20
    go_wp2_with fail
    go_loopg [3,9] N (fun g t3 t9 wr=>∃ i,t9=.int .i64 (i:Nat)∧t3=.int .i64 (lvVs (kids.take i):Nat)∧g=N - i∧i≤N∧w.grownBy wr none)
    case atStart=>exact ⟨0,rfl,rfl,rfl,Nat.zero_le _,gr_alloc (World.grownBy.refl w none) _⟩
    case round =>
      obtain ⟨i,rfl,rfl,hg,hi,hgw⟩:=hrel
      have Hgw:=Lib.hid hgw
      have Hg:=Lib.hid hg
      clear hgw hg
      by_cases hiN:i < N
      · rcases Hv.out with h0 | ⟨b0,i0,rfl,hSb,hcells⟩
        · omega
        obtain ⟨p,hp⟩:∃ p,kids[i]?=some p:=⟨_,List.getElem?_eq_getElem (by rw [←HN.out];exact hiN)⟩
        obtain ⟨ksi,vsi,hIi,hci⟩:=hcells i p hp
        obtain ⟨⟨kso,ksn,ksc,rfl⟩,⟨vso,vsn,vsc,rfl⟩⟩:=hIi.slices
        have hblk:=Hgw.out.block b0 (HS.out b0 hSb) (by simp)
        have hcce:∀ m u,(c7 p _ _)[m]?=some u→World.cell? wr ⟨b0,i0 + i * 7 + m,none⟩=some u:=fun m u hm=>(World.cell?_of_block hblk).trans (hci m u hm)
        have e0:World.cell? wr ⟨b0,i0 + i * 7,none⟩=_:=hcce 0 _ rfl
        have e1:=hcce 1 _ rfl
        have e2:=hcce 2 _ rfl
        have e3:=hcce 3 _ rfl
        have e4:=hcce 4 _ rfl
        have e5:=hcce 5 _ rfl
        have e6:=hcce 6 _ rfl
        clear hcce
        have htk:=lvVs_take hp
        have hcall:=fun (w2:World) (hg2:wr.grownBy w2 none)=>Hih.out p S w2 _ _ (Hall.out p (List.mem_of_getElem? hp)) (IsV.keep (S':=S) (fun k hk=>⟨hk,(Hgw.out.trans hg2).block k (HS.out k hk) (by simp)⟩) _ _ _ hIi) (fun k hk=>Nat.lt_of_lt_of_le (HS.out k hk) (Hgw.out.trans hg2).size)
        unfold valOf at hcall
        obtain ⟨c,hc⟩:∃ c,c=lvVs (kids.take i):=⟨_,rfl⟩
        obtain ⟨lp,hlp⟩:∃ c,c=lvV p:=⟨_,rfl⟩
        rw [←hc,←hlp] at htk
        rw [←hc]
        rw [←hlp] at hcall
        have hnm:(i:Int) < N:=by omega
        have hwi:IntKind.i64.wrap ((i:Int) + 1)=(i:Int) + 1:=IntWalk.i64_in _ (by omega)
        generalize pvKind p=p1 at *
        generalize pvInt p=p2 at *
        generalize pvGen p=p3 at *
        generalize pvReal p=p4 at *
        generalize (⟨(pvText p).toArray⟩:ByteArray)=p5 at *
        have Hcall:=Lib.hid hcall
        have Htk:=Lib.hid htk
        clear hcall hIi hci hp hcells hblk htk hc hlp
        go_wp2_with fail
        refine (Hcall.out _ (gr_alloc (World.grownBy.refl _ _) _)).mono ?_
        rintro e w2 ⟨rfl,hg2⟩
        have Hg2:=Lib.hid (Hgw.out.trans ((gr_alloc (World.grownBy.refl _ _) _).trans hg2))
        clear hg2
        go_wp2_with fail
        go_roundg (N - (i + 1))
        case measure=>rw [Hg.out];omega
        case rel=>exact ⟨i + 1,by simp,by rw [Htk.out];simp;omega,rfl,by omega,Hg2.out⟩
      · obtain rfl:i=N:=by omega
        have hL:=HL.out
        have htk:kids.take i=kids:=List.take_of_length_le (by have:=HN.out;omega)
        rw [htk]
        have hwl:IntKind.i64.wrap ((lvVs kids:Int) + 1)=(lvVs kids:Int) + 1:=IntWalk.i64_in _ (by omega)
        go_wp2_with fail
        go_ret
        exact ⟨rfl,Hgw.out⟩
def NdPost (x:PV) (most:Int) (e:Ending):Prop:=∃ r:Int,e=.returned (.int .i64 r)∧1≤r∧(r≤1∨r≤most + 1)∧(r≤most→r=szV x)
set_option maxRecDepth 100000 in
set_option maxHeartbeats 40000000 in
theorem nodes_any:∀ (n:Nat),∀ (x:PV) (S:Nat→Prop) (w:World) (ks vs:Value) (most:Int),lvV x≤n→-1000000≤most→most≤1000000→IsV S w x ks vs→(∀ k,S k→k < w.heap.size) →
    Calls Tryz.prog 19 #[valOf x ks vs,.int .i64 most] w fun e w'=>NdPost x most e∧w.grownBy w' none:=by
  intro n
  induction n with
  | zero=>intro x S w ks vs most hl;have:=lvV_pos x;omega
  | succ n ih =>
    intro x S w ks vs most hl hm0 hm1 hI hS
    have hlk:=lv_kids x
    have hsk:=sz_kids x
    obtain ⟨ko,kc,vo,vc,rfl,rfl,-,hmx,-,hv⟩:=hI.view
    unfold valOf NdPost
    rw [hsk]
    obtain ⟨kids,hk⟩:∃ l,l=kidsV x:=⟨_,rfl⟩
    rw [←hk] at hv hmx hlk ⊢
    obtain ⟨N,hN⟩:∃ N,N=kids.length:=⟨_,rfl⟩
    rw [←hN] at hv hmx ⊢
    generalize pvKind x=k1
    generalize pvInt x=k2
    generalize pvGen x=k3
    generalize pvReal x=k4
    generalize (⟨(pvText x).toArray⟩:ByteArray)=k5
    generalize (keysV x).length=kn
    have hM:N≤9223372036854775807:=by unfold maxLen at hmx;omega
    have hall:∀ p∈kids,lvV p≤n:=fun p hp=>by have:=lvV_mem hp;omega
    have Hv:=Lib.hid hv
    have HN:=Lib.hid hN
    have HS:=Lib.hid hS
    have Hall:=Lib.hid hall
    have Hih:=Lib.hid ih
    clear hv hN hS hmx hk hI hall ih hlk hl hsk x
    have hbox:=heap_alloc_new w (.cells #[.int .i64 k1,.int .i64 k2,.int .i64 k3,.float .f64 k4,.string k5,.slice ko kn kc,.slice vo N vc] 30)
    have hg0:w.grownBy (w.alloc (.cells #[.int .i64 k1,.int .i64 k2,.int .i64 k3,.float .f64 k4,.string k5,.slice ko kn kc,.slice vo N vc] 30)) none:=gr_alloc (World.grownBy.refl w none) _
    obtain ⟨W,hW⟩:∃ W,W=w.alloc (.cells #[.int .i64 k1,.int .i64 k2,.int .i64 k3,.float .f64 k4,.string k5,.slice ko kn kc,.slice vo N vc] 30):=⟨_,rfl⟩
    rw [←hW] at hbox hg0
    have Hbox:=Lib.hid hbox
    have Hg0:=Lib.hid hg0
    clear hbox hg0
    go_enter Tryz.func19,Tryz.ntmps19
    go_wp2_with fail
    rw [←hW]
    clear hW
    go_loopg [5,6] N (fun g t5 t6 wr=>∃ (i:Nat) (c:Int),t6=.int .i64 (i:Nat)∧t5=.int .i64 c∧g=N - i∧i≤N∧1≤c∧(c≤1∨c≤most + 1)∧(c≤most→c=1 + szVs (kids.take i))∧W.grownBy wr none)
    case atStart=>exact ⟨0,1,rfl,rfl,rfl,Nat.zero_le _,by omega,.inl (by omega),fun _=>by simp [szVs],World.grownBy.refl _ _⟩
    case round =>
      obtain ⟨i,c,rfl,rfl,hg,hi,hc1,hc2,hc3,hgw⟩:=hrel
      have q0:=(hgw.block _ (Array.getElem?_eq_some_iff.1 Hbox.out).1 (by simp)).trans Hbox.out
      obtain ⟨x0,x1,x2,x3,x4,x5,x6,xf⟩:=cells7 q0
      have Hgw:=Lib.hid (Hg0.out.trans hgw)
      have HgW:=Lib.hid hgw
      have Hg:=Lib.hid hg
      have Hc3:=Lib.hid hc3
      have Hc2:=Lib.hid hc2
      clear hgw hg q0 hc3
      by_cases hiN:i < N
      · have hnm:(i:Int) < N:=by omega
        by_cases hcm:c≤most
        · rcases Hv.out with h0 | ⟨b0,i0,rfl,hSb,hcells⟩
          · omega
          obtain ⟨p,hp⟩:∃ p,kids[i]?=some p:=⟨_,List.getElem?_eq_getElem (by rw [←HN.out];exact hiN)⟩
          obtain ⟨ksi,vsi,hIi,hci⟩:=hcells i p hp
          obtain ⟨⟨kso,ksn,ksc,rfl⟩,⟨vso,vsn,vsc,rfl⟩⟩:=hIi.slices
          have hblk:=Hgw.out.block b0 (HS.out b0 hSb) (by simp)
          have hcce:∀ m u,(c7 p _ _)[m]?=some u→World.cell? wr ⟨b0,i0 + i * 7 + m,none⟩=some u:=fun m u hm=>(World.cell?_of_block hblk).trans (hci m u hm)
          have e0:World.cell? wr ⟨b0,i0 + i * 7,none⟩=_:=hcce 0 _ rfl
          have e1:=hcce 1 _ rfl
          have e2:=hcce 2 _ rfl
          have e3:=hcce 3 _ rfl
          have e4:=hcce 4 _ rfl
          have e5:=hcce 5 _ rfl
          have e6:=hcce 6 _ rfl
          clear hcce
          have htk:=szVs_take hp
          have hcall:=fun (w2:World) (hg2:wr.grownBy w2 none)=>Hih.out p S w2 _ _ (most - c) (Hall.out p (List.mem_of_getElem? hp)) (by omega) (by omega) (IsV.keep (S':=S) (fun k hk=>⟨hk,(Hgw.out.trans hg2).block k (HS.out k hk) (by simp)⟩) _ _ _ hIi) (fun k hk=>Nat.lt_of_lt_of_le (HS.out k hk) (Hgw.out.trans hg2).size)
          unfold valOf NdPost at hcall
          obtain ⟨sp,hsp⟩:∃ c,c=szV p:=⟨_,rfl⟩
          rw [←hsp] at hcall htk
          have hwi:IntKind.i64.wrap ((i:Int) + 1)=(i:Int) + 1:=IntWalk.i64_in _ (by omega)
          have hwm:IntKind.i64.wrap (most - c)=most - c:=IntWalk.i64_in _ (by omega)
          generalize pvKind p=p1 at *
          generalize pvInt p=p2 at *
          generalize pvGen p=p3 at *
          generalize pvReal p=p4 at *
          generalize (⟨(pvText p).toArray⟩:ByteArray)=p5 at *
          have Hcall:=Lib.hid hcall
          have Htk:=Lib.hid htk
          clear hcall hIi hci hp hcells hblk htk hsp hc2
          go_wp2_with fail
          refine (Hcall.out _ (World.grownBy.refl _ _)).mono ?_
          rintro e w2 ⟨⟨r,rfl,hr1,hr2,hr3⟩,hg2⟩
          have Hg2:=Lib.hid (HgW.out.trans hg2)
          have Hr2:=Lib.hid hr2
          have Hr3:=Lib.hid hr3
          have hwr:IntKind.i64.wrap (c + r)=c + r:=IntWalk.i64_in _ (by omega)
          clear hg2 hr2 hr3
          go_wp2_with fail
          go_roundg (N - (i + 1))
          case measure=>rw [Hg.out];omega
          case rel=>exact ⟨i + 1,c + r,by simp,rfl,rfl,by omega,by omega,.inr (by have:=Hr2.out;omega),fun h=>by have:=Hr3.out (by omega);have:=Hc3.out (by omega);have:=Htk.out;omega,Hg2.out⟩
        · clear hc2
          go_wp2_with fail
          go_ret
          exact ⟨⟨c,rfl,hc1,Hc2.out,fun h=>absurd h (by omega)⟩,Hgw.out⟩
      · obtain rfl:i=N:=by omega
        clear hc2
        go_wp2_with fail
        go_ret
        refine ⟨⟨c,rfl,hc1,Hc2.out,fun h=>?_⟩,Hgw.out⟩
        have:=Hc3.out h
        rw [List.take_of_length_le (by have:=HN.out;omega)] at this
        omega
def MdPost (Z L:Nat) (e:Ending):Prop:=∃ b:Bool,e=.returned (.bool b)∧(b=true→Z≤5000∧L≤40)
set_option maxRecDepth 100000 in
set_option maxHeartbeats 40000000 in
theorem modest_any (x:PV) (S:Nat→Prop) (w:World) (ks vs:Value) (hl:lvV x≤1000000) (hI:IsV S w x ks vs) (hS:∀ k,S k→k < w.heap.size) :
    Calls Tryz.prog 8 #[valOf x ks vs] w fun e w'=>MdPost (szV x) (lvV x) e∧w.grownBy w' none:=by
  have hnd:=fun (w2:World) (hg2:w.grownBy w2 none)=>nodes_any _ x S w2 ks vs 5000 (Nat.le_refl _) (by omega) (by omega) (IsV.keep (S':=S) (fun k hk=>⟨hk,hg2.block k (hS k hk) (by simp)⟩) _ _ _ hI) (fun k hk=>Nat.lt_of_lt_of_le (hS k hk) hg2.size)
  have hlv:=fun (w2:World) (hg2:w.grownBy w2 none)=>levels_any _ hl x S w2 ks vs (Nat.le_refl _) (IsV.keep (S':=S) (fun k hk=>⟨hk,hg2.block k (hS k hk) (by simp)⟩) _ _ _ hI) (fun k hk=>Nat.lt_of_lt_of_le (hS k hk) hg2.size)
  obtain ⟨⟨ko,kn,kc,rfl⟩,⟨vo,vn,vc,rfl⟩⟩:=hI.slices
  unfold valOf NdPost at *
  obtain ⟨L,hL⟩:∃ L,L=lvV x:=⟨_,rfl⟩
  obtain ⟨Z,hZ⟩:∃ Z,Z=szV x:=⟨_,rfl⟩
  rw [←hL] at hlv ⊢
  rw [←hZ] at hnd ⊢
  generalize pvKind x=k1 at *
  generalize pvInt x=k2 at *
  generalize pvGen x=k3 at *
  generalize pvReal x=k4 at *
  generalize (⟨(pvText x).toArray⟩:ByteArray)=k5 at *
  have Hnd:=Lib.hid hnd
  have Hlv:=Lib.hid hlv
  clear hnd hlv hI hS hl hL hZ
  have hbox:=heap_alloc_new w (.cells #[.int .i64 k1,.int .i64 k2,.int .i64 k3,.float .f64 k4,.string k5,.slice ko kn kc,.slice vo vn vc] 30)
  have hg0:w.grownBy (w.alloc (.cells #[.int .i64 k1,.int .i64 k2,.int .i64 k3,.float .f64 k4,.string k5,.slice ko kn kc,.slice vo vn vc] 30)) none:=gr_alloc (World.grownBy.refl w none) _
  obtain ⟨W,hW⟩:∃ W,W=w.alloc (.cells #[.int .i64 k1,.int .i64 k2,.int .i64 k3,.float .f64 k4,.string k5,.slice ko kn kc,.slice vo vn vc] 30):=⟨_,rfl⟩
  rw [←hW] at hbox hg0
  have Hbox:=Lib.hid hbox
  have Hg0:=Lib.hid hg0
  obtain ⟨x0,x1,x2,x3,x4,x5,x6,xf⟩:=cells7 hbox
  clear hbox hg0
  go_enter Tryz.func8,Tryz.ntmps8
  go_wp2_with fail
  rw [←hW]
  clear hW
  go_wp2_with fail
  refine (Hnd.out _ Hg0.out).mono ?_
  rintro e w2 ⟨⟨r,rfl,hr1,hr2,hr3⟩,hg2⟩
  have q0:=(hg2.block _ (Array.getElem?_eq_some_iff.1 Hbox.out).1 (by simp)).trans Hbox.out
  clear x0 x1 x2 x3 x4 x5 x6 xf
  obtain ⟨x0,x1,x2,x3,x4,x5,x6,xf⟩:=cells7 q0
  have HG2:=Lib.hid (Hg0.out.trans hg2)
  have Hr3:=Lib.hid hr3
  clear hg2 q0 hr2 hr3
  by_cases h5:r≤5000
  · go_wp2_with fail
    refine (Hlv.out _ HG2.out).mono ?_
    rintro e w3 ⟨rfl,hg3⟩
    have HG3:=Lib.hid (HG2.out.trans hg3)
    clear hg3
    by_cases h40:(L:Int)≤40
    · go_wp2_with fail
      go_ret
      exact ⟨⟨true,rfl,fun _=>by have:=Hr3.out h5;omega⟩,HG3.out⟩
    · go_wp2_with fail
      go_ret
      exact ⟨⟨_,rfl,fun h=>absurd (of_decide_eq_true h) (by omega)⟩,HG3.out⟩
  · go_wp2_with fail
    go_ret
    exact ⟨⟨false,rfl,fun h=>absurd h (by simp)⟩,HG2.out⟩
end Go.Proofs.YtfkecmlmnhbmoaaGreatDoor
