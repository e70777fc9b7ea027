/- The texts U1 U2 U3 Q6 Q7 of the workbench, laid together. -/
import Derived.Test.YtfkecmlmnhbmoaaGreatDoorProg
import Derived.WalkKit
import Derived.WalkLawsBesides
import Derived.WalkSpells
import Derived.BigQuiet
import Derived.BigRegion
import Derived.Deep.QuietTactic
import Derived.Deep.RegionHeld3
import Derived.Deep.LoopGhost
import Derived.StillTailTactics
import Derived.Lib.Hide
import Derived.Laws.EntriesVeiled
import Derived.Deep.CutRange
import Derived.Test.YtfkecmlmnhbmoaaGreatDoorY26
import Derived.Test.YtfkecmlmnhbmoaaGreatDoorY29
import Derived.Test.YtfkecmlmnhbmoaaGreatDoorY40
import Derived.Test.YtfkecmlmnhbmoaaGreatDoorY41
set_option linter.unusedVariables false
set_option linter.unusedSimpArgs false
namespace Go.Proofs.YtfkecmlmnhbmoaaGreatDoor
open Go Go.RowKit
open Go.Maps
def ObL (w w':World) (v:Value) (e:Ending):Prop:=e=.returned (.tuple #[v,.bool true])∧w.grownBy w' none
section
variable (i g:Int) (r:Nat) (z:ByteArray) (ko vo:Option Addr) (kn kc vn vc:Nat) (w:World)
set_option maxRecDepth 100000 in
set_option maxHeartbeats 40000000 in
theorem ob_null:Calls Tryz.prog 21 #[.agg #[.int .i64 0,.int .i64 i,.int .i64 g,.float .f64 r,.string z,.slice ko kn kc,.slice vo vn vc]] w fun e w'=>ObL w w' .nilIface e:=by
 go_enter Tryz.func21,Tryz.ntmps21
 go_wp2_with fail
 go_ret2
 exact ⟨rfl,gr_alloc (World.grownBy.refl _ _) _⟩
set_option maxRecDepth 100000 in
set_option maxHeartbeats 40000000 in
theorem ob_btrue:Calls Tryz.prog 21 #[.agg #[.int .i64 1,.int .i64 1,.int .i64 g,.float .f64 r,.string z,.slice ko kn kc,.slice vo vn vc]] w fun e w'=>ObL w w' (.iface 66 (.bool true)) e:=by
 go_enter Tryz.func21,Tryz.ntmps21
 go_wp2_with fail
 go_ret2
 exact ⟨rfl,gr_alloc (World.grownBy.refl _ _) _⟩
set_option maxRecDepth 100000 in
set_option maxHeartbeats 40000000 in
theorem ob_bfalse:Calls Tryz.prog 21 #[.agg #[.int .i64 1,.int .i64 0,.int .i64 g,.float .f64 r,.string z,.slice ko kn kc,.slice vo vn vc]] w fun e w'=>ObL w w' (.iface 66 (.bool false)) e:=by
 go_enter Tryz.func21,Tryz.ntmps21
 go_wp2_with fail
 go_ret2
 exact ⟨rfl,gr_alloc (World.grownBy.refl _ _) _⟩
set_option maxRecDepth 100000 in
set_option maxHeartbeats 40000000 in
theorem ob_int:Calls Tryz.prog 21 #[.agg #[.int .i64 2,.int .i64 i,.int .i64 g,.float .f64 r,.string z,.slice ko kn kc,.slice vo vn vc]] w fun e w'=>ObL w w' (.iface 67 (.int .i64 i)) e:=by
 go_enter Tryz.func21,Tryz.ntmps21
 go_wp2_with fail
 go_ret2
 exact ⟨rfl,gr_alloc (World.grownBy.refl _ _) _⟩
set_option maxRecDepth 100000 in
set_option maxHeartbeats 40000000 in
theorem ob_real:Calls Tryz.prog 21 #[.agg #[.int .i64 3,.int .i64 i,.int .i64 g,.float .f64 r,.string z,.slice ko kn kc,.slice vo vn vc]] w fun e w'=>ObL w w' (.iface 68 (.float .f64 r)) e:=by
 go_enter Tryz.func21,Tryz.ntmps21
 go_wp2_with fail
 go_ret2
 exact ⟨rfl,gr_alloc (World.grownBy.refl _ _) _⟩
set_option maxRecDepth 100000 in
set_option maxHeartbeats 40000000 in
theorem ob_lit:Calls Tryz.prog 21 #[.agg #[.int .i64 4,.int .i64 i,.int .i64 g,.float .f64 r,.string z,.slice ko kn kc,.slice vo vn vc]] w fun e w'=>ObL w w' (.iface 69 (.string z)) e:=by
 go_enter Tryz.func21,Tryz.ntmps21
 go_wp2_with fail
 go_ret2
 exact ⟨rfl,gr_alloc (World.grownBy.refl _ _) _⟩
set_option maxRecDepth 100000 in
set_option maxHeartbeats 40000000 in
theorem ob_hexl:Calls Tryz.prog 21 #[.agg #[.int .i64 5,.int .i64 i,.int .i64 g,.float .f64 r,.string z,.slice ko kn kc,.slice vo vn vc]] w fun e w'=>ObL w w' (.iface 70 (.string z)) e:=by
 go_enter Tryz.func21,Tryz.ntmps21
 go_wp2_with fail
 go_ret2
 exact ⟨rfl,gr_alloc (World.grownBy.refl _ _) _⟩
set_option maxRecDepth 100000 in
set_option maxHeartbeats 40000000 in
theorem ob_name:Calls Tryz.prog 21 #[.agg #[.int .i64 6,.int .i64 i,.int .i64 g,.float .f64 r,.string z,.slice ko kn kc,.slice vo vn vc]] w fun e w'=>ObL w w' (.iface 71 (.string z)) e:=by
 go_enter Tryz.func21,Tryz.ntmps21
 go_wp2_with fail
 go_ret2
 exact ⟨rfl,gr_alloc (World.grownBy.refl _ _) _⟩
set_option maxRecDepth 100000 in
set_option maxHeartbeats 40000000 in
theorem ob_ref:Calls Tryz.prog 21 #[.agg #[.int .i64 9,.int .i64 i,.int .i64 g,.float .f64 r,.string z,.slice ko kn kc,.slice vo vn vc]] w fun e w'=>ObL w w' (.iface 73 (.agg #[.int .i64 i,.int .i64 g])) e:=by
 go_enter Tryz.func21,Tryz.ntmps21
 go_wp2_with fail
 refine (newref_any i g _).mono ?_
 rintro e w1 ⟨rfl,hw⟩
 subst w1
 go_wp2_with fail
 go_ret2
 exact ⟨rfl,gr_alloc (gr_alloc (World.grownBy.refl _ _) _) _⟩
end
end Go.Proofs.YtfkecmlmnhbmoaaGreatDoor
namespace Go.Proofs.YtfkecmlmnhbmoaaGreatDoor
open Go Go.RowKit
open Go.Maps
def ObPost (p:PO) (w w':World) (e:Ending):Prop:=∃ v S',e=.returned (.tuple #[v,.bool true])∧ObjO S' w' p v∧(∀ k,S' k→w.heap.size≤k∧k < w'.heap.size)∧w.grownBy w' none
def ObC (p:PO) (o:OB):Prop:=∀ (S:Nat→Prop) (w:World) (ks vs:Value),IsB S w o ks vs→(∀ k,S k→k < w.heap.size)→Calls Tryz.prog 21 #[obV o ks vs] w fun e w'=>ObPost p w w' e
structure OsJ (w wr:World) (i:Nat) (ps:List PO) (sl:Value) (cells:List Value) (S2:Nat→Prop):Prop where
 row:wr.ownsRow w.heap.size 50 1 sl i cells
 objs:ObjOs S2 wr (ps.take i) cells
 bnd:∀ k,S2 k→w.heap.size≤k∧k < wr.heap.size∧sl.ownBlock≠some k
 grow:w.grownBy wr none
def OsPost (ps:List PO) (w w':World) (e:Ending):Prop:=∃ sl cells S',e=.returned (.tuple #[sl,.bool true])∧SlAt S' w' sl 1 ps.length cells∧ObjOs S' w' ps cells∧(∀ k,S' k→w.heap.size≤k∧k < w'.heap.size)∧w.grownBy w' none
set_option maxRecDepth 100000 in
set_option maxHeartbeats 40000000 in
theorem objs_any (ps:List PO) (kids:List OB) (hlen:ps.length=kids.length) (hl2:kids.length≤20000) (hP:∀ (i:Nat) p o,ps[i]?=some p→kids[i]?=some o→ObC p o) (vo:Option Addr) (vc:Nat) (S:Nat→Prop) (w:World) (hV:KidAt S w vo kids) (hvc:kids.length≤vc) (hS:∀ k,S k→k < w.heap.size) :
  Calls Tryz.prog 39 #[.slice vo kids.length vc] w fun e w'=>OsPost ps w w' e:=by
 obtain ⟨N,hN⟩:∃ N,N=kids.length:=⟨_,rfl⟩
 rw [←hN] at hlen hvc hl2 ⊢
 have HN:=Lib.hid hN
 have Hlen:=Lib.hid hlen
 have HP:=Lib.hid hP
 have HV:=Lib.hid hV
 have HS:=Lib.hid hS
 clear hN hlen hP hV hS
 go_enter Tryz.func39,Tryz.ntmps39
 go_wp2_with fail
 have hrow0:(w.alloc (.cells #[] 50)).ownsRow w.heap.size 50 1 (.slice (some ⟨w.heap.size,0,none⟩) 0 0) 0 []:=⟨rfl,.inr ⟨w.heap.size,0,#[],rfl,Nat.le_refl _,heap_alloc_new w _,Nat.le_refl _,by decide,rfl,rfl⟩⟩
 have HJ0:=Lib.hid (show OsJ w (w.alloc (.cells #[] 50)) 0 ps (.slice (some ⟨w.heap.size,0,none⟩) 0 0) [] (fun _=>False) from ⟨hrow0,by simp [ObjOs],fun k hk=>hk.elim,gr_alloc (World.grownBy.refl _ _) _⟩)
 clear hrow0
 go_loopg [4,12] N (fun gg t4 t12 wr=>∃ i so sn sc cells S2,t4=.slice so sn sc∧t12=.int .i64 (i:Nat)∧gg=N - i∧i≤N∧OsJ w wr i ps (.slice so sn sc) cells S2)
 case atStart=>exact ⟨0,_,_,_,[],_,rfl,rfl,rfl,Nat.zero_le _,HJ0.out⟩
 case round =>
  clear HJ0
  obtain ⟨i,so,sn,sc,cells,S2,rfl,rfl,hg,hi,hJ⟩:=hrel
  have HJ:=Lib.hid hJ
  have Hg:=Lib.hid hg
  clear hJ hg
  by_cases hiN:i < N
  ·have hnm:(i:Int) < N:=by omega
   have hwi:IntKind.i64.wrap ((i:Int) + 1)=(i:Int) + 1:=IntWalk.i64_in _ (by omega)
   obtain ⟨oi,hoi⟩:∃ o,kids[i]?=some o:=⟨_,List.getElem?_eq_getElem (by rw [←HN.out];exact hiN)⟩
   obtain ⟨pi,hpi⟩:∃ p,ps[i]?=some p:=⟨_,List.getElem?_eq_getElem (by rw [Hlen.out];exact hiN)⟩
   obtain ⟨b0,j0,hvo,hSb,pko,pkc,pvo,pvc,hIi,hci⟩:=HV.out i oi hoi
   subst hvo
   have hblk:∀ k,S k→wr.heap[k]?=w.heap[k]?:=fun k hk=>HJ.out.grow.block k (HS.out k hk) (by simp)
   have hcc:∀ m u,(b7 oi (.slice pko oi.keys.length pkc) (.slice pvo oi.kids.length pvc))[m]?=some u→wr.cell? ⟨b0,j0 + i * 7 + m,none⟩=some u:=fun m u hm=>(World.cell?_of_block (hblk b0 hSb)).trans (hci m u hm)
   have e0:wr.cell? ⟨b0,j0 + i * 7,none⟩=_:=hcc 0 _ rfl
   have e1:=hcc 1 _ rfl
   have e2:=hcc 2 _ rfl
   have e3:=hcc 3 _ rfl
   have e4:=hcc 4 _ rfl
   have e5:=hcc 5 _ rfl
   have e6:=hcc 6 _ rfl
   have hcall:=fun (w2:World) (hg2:wr.grownBy w2 none)=>HP.out i pi oi hpi hoi S w2 _ _ (IsB.keep (S':=S) (fun k hk=>⟨hk,(hg2.block k (Nat.lt_of_lt_of_le (HS.out k hk) HJ.out.grow.size) (by simp)).trans (hblk k hk)⟩) _ _ _ hIi) (fun k hk=>Nat.lt_of_lt_of_le (Nat.lt_of_lt_of_le (HS.out k hk) HJ.out.grow.size) hg2.size)
   have Hpi:=Lib.hid hpi
   have Hcall:=Lib.hid hcall
   clear hcall hcc hIi hci hpi hoi hblk
   unfold obV at Hcall
   generalize oi.k=k1 at *
   generalize oi.i=k2 at *
   generalize oi.g=k3 at *
   generalize oi.r=k4 at *
   generalize bs oi.t=k5 at *
   generalize oi.keys.length=k6 at *
   generalize oi.kids.length=k7 at *
   go_wp2_with fail
   obtain ⟨Wa,hWa⟩:∃ Wa,Wa=wr.alloc (.cells #[.int .i64 k1,.int .i64 k2,.int .i64 k3,.float .f64 k4,.string k5,.slice pko k6 pkc,.slice pvo k7 pvc] 26):=⟨_,rfl⟩
   have hga:wr.grownBy Wa none:=by rw [hWa];exact gr_alloc (World.grownBy.refl _ _) _
   rw [←hWa]
   refine (Hcall.out Wa hga).mono ?_
   rintro e w2 ⟨v,S3,rfl,hO,hS3,hg2⟩
   have hg2':=hga.trans hg2
   have Hrow2:=Lib.hid (row_keptB HJ.out.row hg2' (fun k hk=>by simp))
   have Hga:=Lib.hid hga.size
   have Hg2:=Lib.hid hg2'
   have HO:=Lib.hid hO
   have HS3:=Lib.hid hS3
   have hv1:v.oneCell'=true:=by
    rcases hO.nil_or with ⟨_,rfl⟩ | ⟨_,ty,u,rfl⟩<;>simp [Value.oneCell']
   have Hv1:=Lib.hid hv1
   obtain ⟨ti,hti,htz0,htz1,htz2⟩:=info_parts Tryz.info50'
   have hw2s:w.heap.size≤w2.heap.size:=Nat.le_trans HJ.out.grow.size hg2'.size
   have hnil:=Lib.hid hO.nil_or
   clear e0 e1 e2 e3 e4 e5 e6 hWa hga hg2 hg2' hO hS3 hv1
   rcases hnil.out with ⟨_,rfl⟩ | ⟨_,ty,u,rfl⟩
   ·skip
    go_wp2_with (first | (at_builtin;refine wpList_append_own_at _ rfl _ _ 77 rfl w.heap.size 50 ti .nilIface 1 16 Tryz.underlying77 hti htz0 htz1 htz2 rfl (by decide) _ _ _ rfl (World.ownsRow.alloc Hrow2.out _) ⟨w2.heap.size,0,none⟩ 1 1 [.nilIface] rfl rfl (cell_one_new _ _ _) (by intro u' hu;simp at hu;subst hu;simp [Value.oneCell']) (by unfold maxLen;omega) (by omega) (by simp;omega) ?_))
    intro v7 w7 ho7 hg7 _ hat7
    have hshape:∃ gg cap,v7=.slice (some ⟨gg,0,none⟩) (i + 1) cap:=by
     rcases ho7.2 with ⟨_,h0⟩ | ⟨gg,cap,cur,h,_⟩
     ·exact absurd h0 (by omega)
     ·exact ⟨gg,cap,h⟩
    obtain ⟨gg,cap7,rfl⟩:=hshape
    have hg27:=gr_alloc_then hg7
    have Hg7:=Lib.hid hg27
    have Ho7:=Lib.hid ho7
    have Hat7:=Lib.hid (show (Value.slice so sn sc).ownBlock=some gg∨w2.heap.size≤gg from by
     rcases hat7 with h | h
     ·left;rw [←h];rfl
     ·right;simp [Value.ownBlock] at h;omega)
    clear hg7 ho7 hat7 hg27
    go_wp2_with fail
    go_roundg (N - (i + 1))
    case measure=>rw [Hg.out];omega
    case rel =>
     have hJ:=HJ.out
     have hrl:=World.ownsRow.lt hJ.row
     have hs2:=Hg2.out.size
     have hs7:=Hg7.out.size
     have hsa:=Hga.out
     have hw:=hJ.grow.size
     refine ⟨i + 1,_,_,_,_,fun k=>S2 k∨S3 k,rfl,by simp,rfl,by omega,⟨Ho7.out,?_,?_,?_⟩⟩
     ·rw [List.take_add_one,Hpi.out]
      refine ObjOs.append (ObjOs.one (ObjO.keep (fun k hk=>⟨.inr hk,?_⟩) _ _ HO.out)) _ _ (ObjOs.keep (fun k hk=>⟨.inl hk,?_⟩) _ _ hJ.objs)
      ·have h1:=HS3.out k hk
       exact Hg7.out.block k h1.2 (fun e=>by have h3:=hrl k e.symm;omega)
      ·have h1:=hJ.bnd k hk
       exact (Hg7.out.block k (by omega) (fun e=>h1.2.2 e.symm)).trans (Hg2.out.block k h1.2.1 (by simp))
     ·intro k hk
      rcases hk with hk | hk
      ·have h1:=hJ.bnd k hk
       refine ⟨h1.1,by omega,fun e=>?_⟩
       have e:gg=k:=by simpa [Value.ownBlock] using e
       rcases Hat7.out with h | h
       ·exact h1.2.2 (h.trans (by rw [e]))
       ·omega
      ·have h1:=HS3.out k hk
       refine ⟨by omega,by omega,fun e=>?_⟩
       have e:gg=k:=by simpa [Value.ownBlock] using e
       rcases Hat7.out with h | h
       ·have h5:=hrl gg h;omega
       ·omega
     ·exact gr_noneThen (hJ.grow.trans Hg2.out) Hg7.out (fun j hj=>by have:=hrl j hj;omega)
   ·skip
    go_wp2_with (first | (at_builtin;refine wpList_append_own_at _ rfl _ _ 77 rfl w.heap.size 50 ti .nilIface 1 16 Tryz.underlying77 hti htz0 htz1 htz2 rfl (by decide) _ _ _ rfl (World.ownsRow.alloc Hrow2.out _) ⟨w2.heap.size,0,none⟩ 1 1 [.iface ty u] rfl rfl (cell_one_new _ _ _) (by intro u' hu;simp at hu;subst hu;simp [Value.oneCell']) (by unfold maxLen;omega) (by omega) (by simp;omega) ?_))
    intro v7 w7 ho7 hg7 _ hat7
    have hshape:∃ gg cap,v7=.slice (some ⟨gg,0,none⟩) (i + 1) cap:=by
     rcases ho7.2 with ⟨_,h0⟩ | ⟨gg,cap,cur,h,_⟩
     ·exact absurd h0 (by omega)
     ·exact ⟨gg,cap,h⟩
    obtain ⟨gg,cap7,rfl⟩:=hshape
    have hg27:=gr_alloc_then hg7
    have Hg7:=Lib.hid hg27
    have Ho7:=Lib.hid ho7
    have Hat7:=Lib.hid (show (Value.slice so sn sc).ownBlock=some gg∨w2.heap.size≤gg from by
     rcases hat7 with h | h
     ·left;rw [←h];rfl
     ·right;simp [Value.ownBlock] at h;omega)
    clear hg7 ho7 hat7 hg27
    go_wp2_with fail
    go_roundg (N - (i + 1))
    case measure=>rw [Hg.out];omega
    case rel =>
     have hJ:=HJ.out
     have hrl:=World.ownsRow.lt hJ.row
     have hs2:=Hg2.out.size
     have hs7:=Hg7.out.size
     have hsa:=Hga.out
     have hw:=hJ.grow.size
     refine ⟨i + 1,_,_,_,_,fun k=>S2 k∨S3 k,rfl,by simp,rfl,by omega,⟨Ho7.out,?_,?_,?_⟩⟩
     ·rw [List.take_add_one,Hpi.out]
      refine ObjOs.append (ObjOs.one (ObjO.keep (fun k hk=>⟨.inr hk,?_⟩) _ _ HO.out)) _ _ (ObjOs.keep (fun k hk=>⟨.inl hk,?_⟩) _ _ hJ.objs)
      ·have h1:=HS3.out k hk
       exact Hg7.out.block k h1.2 (fun e=>by have h3:=hrl k e.symm;omega)
      ·have h1:=hJ.bnd k hk
       exact (Hg7.out.block k (by omega) (fun e=>h1.2.2 e.symm)).trans (Hg2.out.block k h1.2.1 (by simp))
     ·intro k hk
      rcases hk with hk | hk
      ·have h1:=hJ.bnd k hk
       refine ⟨h1.1,by omega,fun e=>?_⟩
       have e:gg=k:=by simpa [Value.ownBlock] using e
       rcases Hat7.out with h | h
       ·exact h1.2.2 (h.trans (by rw [e]))
       ·omega
      ·have h1:=HS3.out k hk
       refine ⟨by omega,by omega,fun e=>?_⟩
       have e:gg=k:=by simpa [Value.ownBlock] using e
       rcases Hat7.out with h | h
       ·have h5:=hrl gg h;omega
       ·omega
     ·exact gr_noneThen (hJ.grow.trans Hg2.out) Hg7.out (fun j hj=>by have:=hrl j hj;omega)
  ·obtain rfl:i=N:=by omega
   have hnm:¬(i:Int) < i:=by omega
   go_wp2_with fail
   go_ret2
   have hJ:=HJ.out
   have hO:=hJ.objs
   rw [List.take_of_length_le (by rw [Hlen.out];exact Nat.le_refl _)] at hO
   have hrl:=World.ownsRow.lt hJ.row
   refine ⟨.slice so sn sc,cells,fun k=>S2 k∨(Value.slice so sn sc).ownBlock=some k,rfl,?_,ObjOs.keep (fun k hk=>⟨.inl hk,rfl⟩) _ _ hO,fun k hk=>?_,hJ.grow⟩
   ·rw [Hlen.out]
    exact (SlAt.of_row hJ.row (fun k=>(Value.slice so sn sc).ownBlock=some k) (fun k hk=>hk)).keep (fun k hk=>⟨.inr hk,rfl⟩)
   ·rcases hk with hk | hk
    ·exact ⟨(hJ.bnd k hk).1,(hJ.bnd k hk).2.1⟩
    ·exact hrl k hk
end Go.Proofs.YtfkecmlmnhbmoaaGreatDoor
namespace Go.Proofs.YtfkecmlmnhbmoaaGreatDoor
open Go Go.RowKit
open Go.Maps
structure DcJ (w wr:World) (i:Nat) (keys:List By) (ps:List PO) (cells:List Value) (S2:Nat→Prop):Prop where
 dict:DictAt wr w.heap.size (keys.take i) cells
 objs:ObjOs S2 wr (ps.take i) cells
 bnd:∀ k,S2 k→w.heap.size + 1≤k∧k < wr.heap.size
 grow:w.grownBy wr none
def DcPost (keys:List By) (ps:List PO) (w w':World) (e:Ending):Prop:=∃ cells S',e=.returned (.tuple #[.map (some w.heap.size),.bool true])∧DictAt w' w.heap.size keys cells∧ObjOs S' w' ps cells∧(∀ k,S' k→w.heap.size + 1≤k∧k < w'.heap.size)∧w.grownBy w' none
set_option maxRecDepth 100000 in
set_option maxHeartbeats 40000000 in
theorem dict_obj (keys:List By) (ps:List PO) (kids:List OB) (hkv:keys.length=kids.length) (hnd:keys.Nodup) (hkk:∀ k∈keys,k.length≤1000000) (hlen:ps.length=kids.length) (hl2:kids.length≤20000) (hP:∀ (i:Nat) p o,ps[i]?=some p→kids[i]?=some o→ObC p o) (ko vo:Option Addr) (kc vc:Nat) (S:Nat→Prop) (w:World) (hK:KeyAt S w ko keys) (hV:KidAt S w vo kids) (hkc:keys.length≤kc) (hvc:kids.length≤vc) (hS:∀ k,S k→k < w.heap.size) :
  Calls Tryz.prog 40 #[.slice ko keys.length kc,.slice vo kids.length vc] w fun e w'=>DcPost keys ps w w' e:=by
 obtain ⟨N,hN⟩:∃ N,N=kids.length:=⟨_,rfl⟩
 rw [hkv] at hkc ⊢
 rw [←hN] at hlen hvc hl2 hkc hkv ⊢
 have HN:=Lib.hid hN
 have Hkv:=Lib.hid hkv
 have Hlen:=Lib.hid hlen
 have HP:=Lib.hid hP
 have HV:=Lib.hid hV
 have HK:=Lib.hid hK
 have HS:=Lib.hid hS
 have Hnd:=Lib.hid hnd
 have Hkk:=Lib.hid hkk
 have hmk:=run_makeMap (P:=Tryz.prog) 81 w
 have HJ0:=Lib.hid (show DcJ w (w.alloc (.map #[] 0)) 0 keys ps [] (fun _=>False) from ⟨by simpa using DictAt.new w,by simp [ObjOs],fun k hk=>hk.elim,gr_alloc (World.grownBy.refl _ _) _⟩)
 clear hN hlen hP hV hK hS hnd hkk hkv
 go_enter Tryz.func40,Tryz.ntmps40
 go_wp2_with fail
 go_loopg [19] N (fun gg t19 wr=>∃ i cells S2,t19=.int .i64 (i:Nat)∧gg=N - i∧i≤N∧DcJ w wr i keys ps cells S2)
 case atStart=>exact ⟨0,[],_,rfl,rfl,Nat.zero_le _,HJ0.out⟩
 case round =>
  clear HJ0 hmk
  obtain ⟨i,cells,S2,rfl,hg,hi,hJ⟩:=hrel
  have HJ:=Lib.hid hJ
  have Hg:=Lib.hid hg
  clear hJ hg
  by_cases hiN:i < N
  ·have hnm:(i:Int) < N:=by omega
   have hwi:IntKind.i64.wrap ((i:Int) + 1)=(i:Int) + 1:=IntWalk.i64_in _ (by omega)
   obtain ⟨oi,hoi⟩:∃ o,kids[i]?=some o:=⟨_,List.getElem?_eq_getElem (by rw [←HN.out];exact hiN)⟩
   obtain ⟨pi,hpi⟩:∃ p,ps[i]?=some p:=⟨_,List.getElem?_eq_getElem (by rw [Hlen.out];exact hiN)⟩
   obtain ⟨ki,hki⟩:∃ k,keys[i]?=some k:=⟨_,List.getElem?_eq_getElem (by rw [Hkv.out];exact hiN)⟩
   obtain ⟨b0,j0,hvo,hSb,pko,pkc,pvo,pvc,hIi,hci⟩:=HV.out i oi hoi
   obtain ⟨b1,j1,hko,hSb1,hkc1⟩:=HK.out i ki hki
   subst hvo
   subst hko
   have hblk:∀ k,S k→wr.heap[k]?=w.heap[k]?:=fun k hk=>HJ.out.grow.block k (HS.out k hk) (by simp)
   have hcc:∀ m u,(b7 oi (.slice pko oi.keys.length pkc) (.slice pvo oi.kids.length pvc))[m]?=some u→wr.cell? ⟨b0,j0 + i * 7 + m,none⟩=some u:=fun m u hm=>(World.cell?_of_block (hblk b0 hSb)).trans (hci m u hm)
   have ek:wr.cell? ⟨b1,j1 + i,none⟩=some (.string (bs ki)):=(World.cell?_of_block (hblk b1 hSb1)).trans hkc1
   have e0:wr.cell? ⟨b0,j0 + i * 7,none⟩=_:=hcc 0 _ rfl
   have e1:=hcc 1 _ rfl
   have e2:=hcc 2 _ rfl
   have e3:=hcc 3 _ rfl
   have e4:=hcc 4 _ rfl
   have e5:=hcc 5 _ rfl
   have e6:=hcc 6 _ rfl
   have hcall:=fun (w2:World) (hg2:wr.grownBy w2 none)=>HP.out i pi oi hpi hoi S w2 _ _ (IsB.keep (S':=S) (fun k hk=>⟨hk,(hg2.block k (Nat.lt_of_lt_of_le (HS.out k hk) HJ.out.grow.size) (by simp)).trans (hblk k hk)⟩) _ _ _ hIi) (fun k hk=>Nat.lt_of_lt_of_le (Nat.lt_of_lt_of_le (HS.out k hk) HJ.out.grow.size) hg2.size)
   have Hpi:=Lib.hid hpi
   have Hki:=Lib.hid hki
   have Hcall:=Lib.hid hcall
   have hkl:=Hkk.out ki (List.mem_of_getElem? hki)
   have Hkl:=Lib.hid hkl
   have hkn:ki∉keys.take i:=by
    intro hm
    obtain ⟨j,hj⟩:=List.mem_iff_getElem?.1 hm
    have hji:j < i:=by have:=(List.getElem?_eq_some_iff.1 hj).1;simp at this;omega
    rw [List.getElem?_take,if_pos hji] at hj
    exact nodup_first Hnd.out hki j hji hj
   have Hkn:=Lib.hid hkn
   clear hcall hcc hIi hci hpi hoi hblk hki hkl hkn hkc1 hSb hSb1
   unfold obV at Hcall
   generalize oi.k=k1 at *
   generalize oi.i=k2 at *
   generalize oi.g=k3 at *
   generalize oi.r=k4 at *
   generalize bs oi.t=k5 at *
   generalize oi.keys.length=k6 at *
   generalize oi.kids.length=k7 at *
   go_wp2_with fail
   refine (Hcall.out wr (World.grownBy.refl _ _)).mono ?_
   rintro e w2 ⟨v,S3,rfl,hO,hS3,hg2⟩
   have hD2:=HJ.out.dict.keep (w':=w2) (hg2.block _ HJ.out.dict.lt (by simp))
   obtain ⟨h1,h2,D,hown,h3,h4⟩:=hD2
   have hT:=IsMap.of hown
   have hkey:=key9 ki (by unfold maxLen;have:=Hkl.out;omega)
   obtain ⟨w3,hm,hown3,hg3⟩:=hown.update keyed9 Tryz.underlying81 (key:=.string (bs ki)) (val:=v) (by unfold maxLen;have:=List.length_take_le i keys;omega) hkey rfl
   have hd3:=DictAt.put h1 h2 hT h3 h4 Hkn.out hown3
   have HD3:=Lib.hid hd3
   have Hg2:=Lib.hid hg2
   have Hg3:=Lib.hid hg3
   have HO:=Lib.hid hO
   have HS3:=Lib.hid hS3
   clear h1 h2 h3 h4 hT hd3 hown3 hg2 hg3 hO hS3 hown e0 e1 e2 e3 e4 e5 e6 ek hkey
   go_wp2_with fail
   go_roundg (N - (i + 1))
   case measure=>rw [Hg.out];omega
   case rel =>
    have hJ:=HJ.out
    have hs2:=Hg2.out.size
    have hs3:=Hg3.out.size
    have hw:=hJ.grow.size
    have hdl:=hJ.dict.lt
    refine ⟨i + 1,cells ++ [v],fun k=>S2 k∨S3 k,by simp,rfl,by omega,⟨?_,?_,?_,?_⟩⟩
    ·rw [List.take_add_one,Hki.out];exact HD3.out
    ·rw [List.take_add_one,Hpi.out]
     refine ObjOs.append (ObjOs.one (ObjO.keep (fun k hk=>⟨.inr hk,?_⟩) _ _ HO.out)) _ _ (ObjOs.keep (fun k hk=>⟨.inl hk,?_⟩) _ _ hJ.objs)
     ·have h1:=HS3.out k hk
      exact Hg3.out.block k h1.2 (fun e=>by injection e with e;omega)
     ·have h1:=hJ.bnd k hk
      exact (Hg3.out.block k (by omega) (fun e=>by injection e with e;omega)).trans (Hg2.out.block k h1.2 (by simp))
    ·intro k hk
     rcases hk with hk | hk
     ·have h1:=hJ.bnd k hk;omega
     ·have h1:=HS3.out k hk;omega
    ·exact gr_noneThen (hJ.grow.trans Hg2.out) Hg3.out (fun j hj=>by injection hj with hj;omega)
  ·obtain rfl:i=N:=by omega
   have hnm:¬(i:Int) < i:=by omega
   go_wp2_with fail
   go_ret2
   have hJ:=HJ.out
   have hO:=hJ.objs
   have hD:=hJ.dict
   rw [List.take_of_length_le (by rw [Hlen.out];exact Nat.le_refl _)] at hO
   rw [List.take_of_length_le (by rw [Hkv.out];exact Nat.le_refl _)] at hD
   exact ⟨cells,S2,rfl,hD,hO,hJ.bnd,hJ.grow⟩
end Go.Proofs.YtfkecmlmnhbmoaaGreatDoor
namespace Go.Proofs.YtfkecmlmnhbmoaaGreatDoor
open Go Go.RowKit
open Go.Maps Go.Lib
theorem join_flat (L:List By):Lib.join L []=L.flatten:=by
 unfold Lib.join
 induction L with
 | nil=>rfl
 | cons a L ih =>
  cases L with
  | nil=>simp [List.intercalate]
  | cons b L =>
   rw [List.flatten_cons,←ih]
   simp [List.intercalate]
theorem bs_data (l:By):(bs l).data.toList=l:=by simp [bs]
theorem join_any (L:List By) (base:Nat) (so:Option Addr) (sn sc:Nat) (w:World) (hrow:w.ownsRow base 9 1 (.slice so sn sc) L.length (L.map encStr)) (hl:L.length≤10000000) (hf:L.flatten.length≤100000000000) :
  Calls Tryz.prog 289 #[.slice so sn sc,.string ⟨#[]⟩] w fun e w'=>e=.returned (.string (bs L.flatten))∧w.grownBy w' none:=by
 rcases hrow.2 with ⟨hnil,h0⟩ | ⟨g,cap,cur,he,hbase,hb,h1,h2,h3,h4⟩
 ·injection hnil with e1 e2 e3
  subst e1;subst e2;subst e3
  obtain rfl:L=[]:=List.eq_nil_of_length_eq_zero h0
  refine (Tryz.strings_Join_none none 0 _ w).mono ?_
  rintro e w' ⟨rfl,rfl⟩
  exact ⟨rfl,World.grownBy.refl _ _⟩
 ·injection he with e1 e2 e3
  subst e1;subst e2;subst e3
  have hcells:∀ (j:Nat) x,(L.map bs)[j]?=some x→w.cell? ⟨g,0 + j,none⟩=some (.string x):=by
   intro j x hj
   rw [List.getElem?_map] at hj
   have:=World.ownsRow.cells hrow (g:=g) rfl j (.string x) (by
    rw [List.getElem?_map]
    cases hq:L[j]? with
    | none=>rw [hq] at hj;simp at hj
    | some y=>rw [hq] at hj;simp at hj;subst hj;rfl)
   have e:(⟨g,0,none⟩:Addr).add j=⟨g,0 + j,none⟩:=by unfold Addr.add;split<;>simp_all
   rw [e] at this
   exact this
  have hm:(L.map bs).map (·.data.toList)=L:=by
   rw [List.map_map]
   conv=>rhs;rw [←List.map_id L]
   exact List.map_congr_left fun a _=>bs_data a
  have hj:=Tryz.strings_Join g 0 sc (L.map bs) ⟨#[]⟩ w hcells (Array.getElem?_eq_some_iff.1 hb).1 (by simp;omega) (by simp;omega) (by
   rw [hm]
   show (Lib.join L []).length≤_
   rw [join_flat];omega)
  rw [List.length_map,hm] at hj
  refine hj.mono ?_
  rintro e w' ⟨rfl,hb⟩
  refine ⟨?_,hb.os,hb.tape,hb.output,hb.size,fun k hk _=>hb.block k hk⟩
  show _=Ending.returned (.string (bs L.flatten))
  rw [←join_flat]
  rfl
def tyP:PO→Nat
 | .null=>0 | .bool _=>66 | .int _=>67 | .real _=>68 | .lit _=>69 | .hexl _=>70 | .name _=>71 | .ref _ _=>73 | .arr _=>77 | .dict _ _=>81
def fnP:PO→Nat
 | .null=>0 | .bool _=>260 | .int _=>265 | .real _=>268 | .lit _=>271 | .hexl _=>274 | .name _=>277 | .ref _ _=>285 | .arr _=>287 | .dict _ _=>288
def PrC (ff:Nat→By) (R:Nat→Prop) (W0:World) (p:PO):Prop:=∀ (S:Nat→Prop) (w:World) (v:Value),ObjO S w p v→(∀ k,S k→k < w.heap.size)→Env W0 w→okR ff R p→srP p→(prP ff p).length≤1000000000→p≠.null →
 ∃ u,v=.iface (tyP p) u∧Calls Tryz.prog (fnP p) #[u] w fun e w'=>e=.returned (.string (bs (prP ff p)))∧w.grownBy w' none
theorem prc_leaf (ff:Nat→By) (R:Nat→Prop) (W0:World) (hT:TabIs Tryz.prog W0 "internal/strconv.uint64pow10" .u64 pow10Tab) (hR:∀ x,R x→FfC W0 x (ff x)) (p:PO) (h1:∀ ks,p≠.arr ks) (h2:∀ ks vs,p≠.dict ks vs):PrC ff R W0 p:=by
 intro S w v hO hS hE hok hsr hl hnn
 cases p with
 | null=>exact absurd rfl hnn
 | bool b =>
  simp only [ObjO] at hO
  exact ⟨_,hO,(pbool b w).mono fun e w' h=>⟨by rw [h.1];rfl,by rw [h.2];exact World.grownBy.refl _ _⟩⟩
 | int n =>
  simp only [ObjO] at hO
  simp only [okR] at hok
  exact ⟨_,hO,pint n (by omega) (by omega) W0 w hT hE⟩
 | real x =>
  simp only [ObjO] at hO
  simp only [okR] at hok
  exact ⟨_,hO,preal x (ff x) W0 w (hR x hok.2) hE⟩
 | lit s =>
  simp only [ObjO] at hO
  exact ⟨_,hO.2,(spdf_any s (by omega) w).mono fun e w' h=>⟨by rw [h.1];rfl,by rw [h.2];exact World.grownBy.refl _ _⟩⟩
 | hexl s =>
  simp only [ObjO] at hO
  exact ⟨_,hO.2,(hpdf_any s (by omega) w).mono fun e w' h=>⟨by rw [h.1];rfl,by rw [h.2];exact World.grownBy.refl _ _⟩⟩
 | name s =>
  simp only [ObjO] at hO
  exact ⟨_,hO.2,pname s (by omega) w⟩
 | ref n g =>
  simp only [ObjO] at hO
  simp only [okR] at hok
  exact ⟨_,hO,pref n g (by omega) (by omega) (by omega) (by omega) W0 w hT hE⟩
 | arr ks=>exact absurd rfl (h1 ks)
 | dict ks vs=>exact absurd rfl (h2 ks vs)
end Go.Proofs.YtfkecmlmnhbmoaaGreatDoor
namespace Go.Proofs.YtfkecmlmnhbmoaaGreatDoor
open Go Go.RowKit
open Go.Maps Go.Lib
def pcA (ff:Nat→By) (b:Bool) (p:PO):By:=spc (b && sepA p) ++ prP ff p
def pcAs (ff:Nat→By):Bool→List PO→List By
 | _,[]=>[]
 | b,p::ps=>pcA ff (!b) p::pcAs ff false ps
theorem pcAs_len (ff:Nat→By):∀ (ps:List PO) (b:Bool),(pcAs ff b ps).length=ps.length
 | [],_=>rfl
 | p::ps,b=>by simp [pcAs,pcAs_len ff ps]
theorem pcAs_get (ff:Nat→By):∀ (ps:List PO) (b:Bool) (i:Nat) (p:PO),ps[i]?=some p→(pcAs ff b ps)[i]?=some (pcA ff (if i=0 then !b else true) p)
 | [],_,i,p,h=>by simp at h
 | q::ps,b,0,p,h=>by simp at h;subst h;simp [pcAs]
 | q::ps,b,i + 1,p,h=>by
  simp only [List.getElem?_cons_succ] at h
  simp only [pcAs,List.getElem?_cons_succ]
  rw [pcAs_get ff ps false i p h]
  simp
theorem pcAs_flat (ff:Nat→By):∀ (ps:List PO) (b:Bool),(pcAs ff b ps).flatten=prAs ff b ps
 | [],_=>by simp [pcAs,prAs]
 | p::ps,b=>by simp [pcAs,prAs,pcA,pcAs_flat ff ps]
theorem prAs_le (ff:Nat→By):∀ (ps:List PO) (b:Bool) (i:Nat) (p:PO),ps[i]?=some p→(prP ff p).length≤(prAs ff b ps).length
 | [],_,i,p,h=>by simp at h
 | q::ps,b,0,p,h=>by simp at h;subst h;simp [prAs];omega
 | q::ps,b,i + 1,p,h=>by
  simp only [List.getElem?_cons_succ] at h
  have:=prAs_le ff ps false i p h
  simp [prAs];omega
theorem okRs_at {ff:Nat→By} {R:Nat→Prop} : ∀ (ps:List PO),okRs ff R ps→∀ (i:Nat) p,ps[i]?=some p→okR ff R p
 | [],_,i,p,h=>by simp at h
 | q::ps,hh,0,p,h=>by simp only [okRs] at hh;simp at h;subst h;exact hh.1
 | q::ps,hh,i + 1,p,h=>by simp only [okRs] at hh;exact okRs_at ps hh.2 i p (by simpa using h)
theorem srPs_at:∀ (ps:List PO),srPs ps→∀ (i:Nat) p,ps[i]?=some p→srP p
 | [],_,i,p,h=>by simp at h
 | q::ps,hh,0,p,h=>by simp only [srPs] at hh;simp at h;subst h;exact hh.1
 | q::ps,hh,i + 1,p,h=>by simp only [srPs] at hh;exact srPs_at ps hh.2 i p (by simpa using h)
theorem take_snoc {α:Type} {L:List α} {i:Nat} {x:α} (h:L[i]?=some x):L.take (i + 1)=L.take i ++ [x]:=by rw [List.take_add_one,h];rfl
structure PcJ (w wr:World) (L:List By) (i:Nat) (sl:Value):Prop where
 row:wr.ownsRow w.heap.size 9 1 sl i ((L.map encStr).take i)
 grow:w.grownBy wr none
theorem PcJ.step {w wr w2 w7:World} {L:List By} {i:Nat} {so:Option Addr} {sn sc:Nat} {k:By} {v7:Value} {o:Obj} (hJ:PcJ w wr L i (.slice so sn sc)) (hg:wr.grownBy w2 none) (hk:L[i]?=some k) (ho:w7.ownsRow w.heap.size 9 1 v7 (i + 1) ((L.map encStr).take i ++ [.string (bs k)])) (hg7:(w2.alloc o).grownBy w7 (Value.slice so sn sc).ownBlock):PcJ w w7 L (i + 1) v7:=by
 refine ⟨?_,gr_noneThen (hJ.grow.trans hg) (gr_alloc_then hg7) (fun j hj=>(World.ownsRow.lt hJ.row j hj).1)⟩
 rw [take_snoc (x:=encStr k) (by rw [List.getElem?_map,hk];rfl)]
 exact ho
theorem row_sn {w:World} {b:Nat} {e:TypeId} {z:Nat} {so:Option Addr} {sn sc n:Nat} {xs:List Value} (h:w.ownsRow b e z (.slice so sn sc) n xs):sn=n:=by
 rcases h.2 with ⟨hnil,h0⟩ | ⟨g,cap,cur,he,_⟩
 ·injection hnil with e1 e2 e3;omega
 ·injection he
theorem row_sl {w:World} {b:Nat} {e:TypeId} {z:Nat} {v:Value} {n:Nat} {xs:List Value} (h:w.ownsRow b e z v n xs):∃ so sn sc,v=.slice so sn sc:=by
 rcases h.2 with ⟨hnil,h0⟩ | ⟨g,cap,cur,he,_⟩
 ·exact ⟨_,_,_,hnil⟩
 ·exact ⟨_,_,_,he⟩
set_option maxRecDepth 100000 in
set_option maxHeartbeats 40000000 in
theorem parr (ff:Nat→By) (R:Nat→Prop) (W0:World) (kids:List PO) (hP:∀ p∈kids,PrC ff R W0 p):PrC ff R W0 (.arr kids):=by
 intro S w v hO hS hE hok hsr hl hnn
 simp only [ObjO] at hO
 obtain ⟨hkl,sl,cells,rfl,hSl,hOs⟩:=hO
 refine ⟨sl,rfl,?_⟩
 clear hnn
 obtain ⟨hcl,so0,sc0,rfl,hsc1,hsc2,hcell⟩:=hSl
 simp only [prP] at hl
 simp only [okR] at hok
 simp only [srP] at hsr
 obtain ⟨N,hN⟩:∃ N,N=kids.length:=⟨_,rfl⟩
 obtain ⟨L,hL⟩:∃ L,L=[91]::(pcAs ff true kids ++ [[93]]):=⟨_,rfl⟩
 have hLl:L.length=N + 2:=by rw [hL,hN];simp [pcAs_len]
 have hLf:L.flatten=prP ff (.arr kids):=by rw [hL];simp [prP,pcAs_flat]
 have hLf2:L.flatten.length≤1000000000:=by rw [hLf];simp only [prP];exact hl
 have hL0:L[0]?=some [91]:=by rw [hL];rfl
 have hLz:L[N + 1]?=some [93]:=by rw [hL,hN];simp [List.getElem?_append_right,pcAs_len]
 have hLi:∀ (i:Nat) p,kids[i]?=some p→L[i + 1]?=some (pcA ff (!(decide (i=0))) p):=by
  intro i p h
  have hi:i < (pcAs ff true kids).length:=by rw [pcAs_len];exact (List.getElem?_eq_some_iff.1 h).1
  rw [hL]
  simp only [List.getElem?_cons_succ]
  rw [List.getElem?_append_left hi,pcAs_get ff kids true i p h]
  by_cases h0:i=0<;>simp [h0]
 have hpl:∀ (i:Nat) p,kids[i]?=some p→(prP ff p).length≤999999998:=by
  intro i p h
  have:=prAs_le ff kids true i p h
  simp at hl;omega
 rw [←hN] at hkl hcl hsc1 hcell ⊢
 show Calls Tryz.prog 287 #[.slice so0 N sc0] w fun e w'=>e=.returned (.string (bs (prP ff (.arr kids))))∧w.grownBy w' none
 rw [←hLf]
 have HP:=Lib.hid hP
 have HOs:=Lib.hid hOs
 have HS:=Lib.hid hS
 have HE:=Lib.hid hE
 have Hok:=Lib.hid hok
 have Hsr:=Lib.hid hsr
 have HN:=Lib.hid hN
 have HLl:=Lib.hid hLl
 have HLf2:=Lib.hid hLf2
 have HL0:=Lib.hid hL0
 have HLz:=Lib.hid hLz
 have HLi:=Lib.hid hLi
 have Hpl:=Lib.hid hpl
 have Hcell:=Lib.hid hcell
 obtain ⟨ti,hti,htz0,htz1,htz2⟩:=info_parts Tryz.info9
 have hb91:(⟨#[91]⟩:ByteArray)=bs [91]:=rfl
 have hb93:(⟨#[93]⟩:ByteArray)=bs [93]:=rfl
 clear hP hOs hS hE hok hsr hN hL hLl hLf hLf2 hL0 hLz hLi hpl hl hcell hcl
 go_enter Tryz.func287,Tryz.ntmps287
 have hrow0:(w.alloc (.cells #[] 9)).ownsRow w.heap.size 9 1 (.slice (some ⟨w.heap.size,0,none⟩) 0 0) 0 []:=⟨rfl,.inr ⟨w.heap.size,0,#[],rfl,Nat.le_refl _,heap_alloc_new w _,Nat.le_refl _,by decide,rfl,rfl⟩⟩
 have HJ:=Lib.hid (show PcJ w (w.alloc (.cells #[] 9)) L 0 (.slice (some ⟨w.heap.size,0,none⟩) 0 0) from ⟨hrow0,gr_alloc (World.grownBy.refl _ _) _⟩)
 clear hrow0
 go_upto_region 2 with (fail)
 obtain ⟨Wa,hWa⟩:∃ Wa,Wa=w.alloc (.cells #[] 9):=⟨_,rfl⟩
 obtain ⟨so1,hso1⟩:∃ so1:Option Addr,so1=some ⟨w.heap.size,0,none⟩:=⟨_,rfl⟩
 rw [←hWa,←hso1] at HJ ⊢
 clear hWa hso1
 skip
 go_wp2_with (first | (at_builtin;refine wpList_append_own_at _ rfl _ _ 23 rfl w.heap.size 9 ti _ 1 16 Tryz.underlying23 hti htz0 htz1 htz2 rfl (by decide) _ (0) _ rfl (World.ownsRow.alloc HJ.out.row _) ⟨_,0,none⟩ 1 1 [.string (bs [91])] rfl rfl (cell_one_new _ _ _) (by simp [Value.oneCell']) (by unfold maxLen;omega) (by omega) (by have:=HJ.out.grow.size;simp;omega) ?_))
 intro v7 w7 ho7 hg7 _ hat7
 have hshape:∃ gg cap,v7=.slice (some ⟨gg,0,none⟩) (0 + 1) cap:=by
  rcases ho7.2 with ⟨_,h0⟩ | ⟨gg,cap,cur,h,_⟩
  ·exact absurd h0 (by omega)
  ·exact ⟨gg,cap,h⟩
 obtain ⟨gg,cap7,rfl⟩:=hshape
 have HJ7:=Lib.hid (HJ.out.step (World.grownBy.refl _ _) HL0.out ho7 hg7)
 clear hg7 ho7 hat7
 go_wp2_with fail
 go_loopg [3,4,5,25] N (fun gg t3 t4 t5 t25 wr=>∃ i so sn sc,t3=.slice so sn sc∧t4=.bool (decide (i=0))∧(∃ s5,t5=.string s5)∧t25=.int .i64 (i:Nat)∧gg=N - i∧i≤N∧PcJ w wr L (i + 1) (.slice so sn sc))
 case atStart=>exact ⟨0,_,_,_,rfl,rfl,⟨_,rfl⟩,rfl,rfl,Nat.zero_le _,HJ7.out⟩
 case round =>
  clear HJ HJ7 HL0
  obtain ⟨i,so,sn,sc,rfl,rfl,⟨s5,rfl⟩,rfl,hg,hi,hJ⟩:=hrel
  have HJ:=Lib.hid hJ
  have Hg:=Lib.hid hg
  clear hJ hg
  by_cases hiN:i < N
  ·have hnm:(i:Int) < N:=by omega
   have hwi:IntKind.i64.wrap ((i:Int) + 1)=(i:Int) + 1:=IntWalk.i64_in _ (by omega)
   obtain ⟨p,hp⟩:∃ p,kids[i]?=some p:=⟨_,List.getElem?_eq_getElem (by rw [←HN.out];exact hiN)⟩
   obtain ⟨v,hv,hOv⟩:=ObjOs.get kids cells HOs.out i p hp
   obtain ⟨b0,j0,hso0,hSb,hcc⟩:∃ b j,so0=some ⟨b,j,none⟩∧S b∧∀ m u,cells[m]?=some u→w.cell? ⟨b,j + m,none⟩=some u:=by
    rcases Hcell.out with h | h
    ·omega
    ·exact h
   subst hso0
   have hblk:∀ k,S k→wr.heap[k]?=w.heap[k]?:=fun k hk=>HJ.out.grow.block k (HS.out k hk) (by simp)
   have hcell:=(World.cell?_of_block (a:=⟨b0,j0 + i,none⟩) (hblk b0 hSb)).trans (hcc i v hv)
   have HOv:=Lib.hid (ObjO.keep (S':=S) (fun k hk=>⟨hk,hblk k hk⟩) _ _ hOv)
   have Hki:=Lib.hid (HLi.out i p hp)
   have Hpp:=Lib.hid hp
   have Hlp:=Lib.hid (Hpl.out i p hp)
   have hcall:=fun (hpn:p≠.null) (w2:World) (hg2:wr.grownBy w2 none)=>HP.out p (List.mem_of_getElem? hp) S w2 v (ObjO.keep (S':=S) (fun k hk=>⟨hk,hg2.block k (Nat.lt_of_lt_of_le (HS.out k hk) HJ.out.grow.size) (by simp)⟩) _ _ HOv.out) (fun k hk=>Nat.lt_of_lt_of_le (Nat.lt_of_lt_of_le (HS.out k hk) HJ.out.grow.size) hg2.size) (HE.out.grown0 (HJ.out.grow.trans hg2)) (okRs_at kids Hok.out i p hp) (srPs_at kids Hsr.out i p hp) (by have:=Hlp.out;omega) hpn
   have Hcall:=Lib.hid hcall
   clear hcall hblk hcc hv hp hOv hSb
   obtain ⟨fb,hfb⟩:∃ fb,fb=decide (i=0):=⟨_,rfl⟩
   rw [←hfb] at Hki ⊢
   clear hfb
   go_upto_if 29 with (fail)
   go_cut [4,5] from 29 to 29 (fun t4 t5 wx=>t4=.bool false∧t5=.string (bs (spc (!fb)))∧wr=wx)
   case first =>
    cases fb
    all_goals
     go_wp2_with fail
     go_meet
     case rel=>exact ⟨rfl,rfl,rfl⟩
   obtain ⟨rfl,rfl,rfl⟩:=hcut
   have Hsz:=Lib.hid (bs_size (spc (!fb)))
   have hsz:(spc (!fb)).length≤1:=by cases fb<;>simp [spc]
   have Hsl:=Lib.hid hsz
   clear hsz
   have hrf:(decide (i + 1=0))=false:=by simp
   cases p with
   | null =>
    have hO:=HOv.out
    simp only [ObjO] at hO
    subst hO
    have hnul:(⟨#[110,117,108,108]⟩:ByteArray)=bs [110,117,108,108]:=rfl
    have ha:bs (spc (!fb)) ++ bs [110,117,108,108]=bs (pcA ff (!fb) .null):=by rw [bs_app];simp [pcA,sepA,prP,wNull]
    have hz1:¬9223372036854775807 < (bs (spc (!fb))).size + (bs [110,117,108,108]).size:=by rw [bs_size,bs_size];have:=Hsl.out;simp;omega
    obtain ⟨kk,hkk⟩:∃ kk,kk=pcA ff (!fb) .null:=⟨_,rfl⟩
    rw [←hkk] at ha Hki
    clear hkk
    generalize bs (spc (!fb))=sp at *
    clear Hcall
    have Hg2:=Lib.hid (World.grownBy.refl wr none)
    skip
    have Hrow2:=Lib.hid (row_keptB HJ.out.row Hg2.out (fun k hk=>by simp))
    have Hsz2:=Lib.hid (Nat.le_trans HJ.out.grow.size Hg2.out.size)
    go_wp2_with (first | (at_builtin;refine wpList_append_own_at _ rfl _ _ 23 rfl w.heap.size 9 ti _ 1 16 Tryz.underlying23 hti htz0 htz1 htz2 rfl (by decide) _ (i + 1) _ rfl (World.ownsRow.alloc Hrow2.out _) ⟨_,0,none⟩ 1 1 [.string (bs kk)] rfl rfl (cell_one_new _ _ _) (by simp [Value.oneCell']) (by unfold maxLen;omega) (by omega) (by have:=Hsz2.out;simp;omega) ?_))
    intro v7 w7 ho7 hg7 _ hat7
    have HJ7:=Lib.hid (HJ.out.step Hg2.out Hki.out ho7 hg7)
    obtain ⟨so7,sn7,sc7,rfl⟩:=row_sl ho7
    clear hg7 ho7 hat7
    go_wp2_with fail
    go_roundg (N - (i + 1))
    case measure=>rw [Hg.out];omega
    case rel=>exact ⟨i + 1,_,_,_,rfl,by simp,⟨_,rfl⟩,by simp,rfl,by omega,HJ7.out⟩
   | bool x =>
    obtain ⟨u,hvu,hc⟩:=Hcall.out (by simp) wr (World.grownBy.refl _ _)
    have hvu':v=.iface 66 u:=hvu
    subst hvu'
    clear hvu
    have ha:bs (spc (!fb)) ++ bs (prP ff (.bool x))=bs (pcA ff (!fb) (.bool x)):=by rw [bs_app];simp [pcA,sepA]
    have hz1:¬9223372036854775807 < (bs (spc (!fb))).size + (bs (prP ff (.bool x))).size:=by rw [bs_size,bs_size];have:=Hsl.out;have:=Hlp.out;omega
    obtain ⟨kk,hkk⟩:∃ kk,kk=pcA ff (!fb) (.bool x):=⟨_,rfl⟩
    rw [←hkk] at ha Hki
    generalize bs (spc (!fb))=sp at *
    generalize bs (prP ff (.bool x))=zp at *
    have Hc:=Lib.hid (show Calls Tryz.prog 260 _ _ _ from hc)
    clear hc hkk Hcall HOv Hlp
    skip
    go_wp2_with fail
    refine Hc.out.mono ?_
    rintro e w2 ⟨rfl,hg2⟩
    have Hg2:=Lib.hid (World.grownBy.trans (World.grownBy.refl _ _) hg2)
    clear hg2
    skip
    have Hrow2:=Lib.hid (row_keptB HJ.out.row Hg2.out (fun k hk=>by simp))
    have Hsz2:=Lib.hid (Nat.le_trans HJ.out.grow.size Hg2.out.size)
    go_wp2_with (first | (at_builtin;refine wpList_append_own_at _ rfl _ _ 23 rfl w.heap.size 9 ti _ 1 16 Tryz.underlying23 hti htz0 htz1 htz2 rfl (by decide) _ (i + 1) _ rfl (World.ownsRow.alloc Hrow2.out _) ⟨_,0,none⟩ 1 1 [.string (bs kk)] rfl rfl (cell_one_new _ _ _) (by simp [Value.oneCell']) (by unfold maxLen;omega) (by omega) (by have:=Hsz2.out;simp;omega) ?_))
    intro v7 w7 ho7 hg7 _ hat7
    have HJ7:=Lib.hid (HJ.out.step Hg2.out Hki.out ho7 hg7)
    obtain ⟨so7,sn7,sc7,rfl⟩:=row_sl ho7
    clear hg7 ho7 hat7
    go_wp2_with fail
    go_roundg (N - (i + 1))
    case measure=>rw [Hg.out];omega
    case rel=>exact ⟨i + 1,_,_,_,rfl,by simp,⟨_,rfl⟩,by simp,rfl,by omega,HJ7.out⟩
   | int n =>
    obtain ⟨u,hvu,hc⟩:=Hcall.out (by simp) wr (World.grownBy.refl _ _)
    have hvu':v=.iface 67 u:=hvu
    subst hvu'
    clear hvu
    have ha:bs (spc (!fb)) ++ bs (prP ff (.int n))=bs (pcA ff (!fb) (.int n)):=by rw [bs_app];simp [pcA,sepA]
    have hz1:¬9223372036854775807 < (bs (spc (!fb))).size + (bs (prP ff (.int n))).size:=by rw [bs_size,bs_size];have:=Hsl.out;have:=Hlp.out;omega
    obtain ⟨kk,hkk⟩:∃ kk,kk=pcA ff (!fb) (.int n):=⟨_,rfl⟩
    rw [←hkk] at ha Hki
    generalize bs (spc (!fb))=sp at *
    generalize bs (prP ff (.int n))=zp at *
    have Hc:=Lib.hid (show Calls Tryz.prog 265 _ _ _ from hc)
    clear hc hkk Hcall HOv Hlp
    skip
    go_wp2_with fail
    refine Hc.out.mono ?_
    rintro e w2 ⟨rfl,hg2⟩
    have Hg2:=Lib.hid (World.grownBy.trans (World.grownBy.refl _ _) hg2)
    clear hg2
    skip
    have Hrow2:=Lib.hid (row_keptB HJ.out.row Hg2.out (fun k hk=>by simp))
    have Hsz2:=Lib.hid (Nat.le_trans HJ.out.grow.size Hg2.out.size)
    go_wp2_with (first | (at_builtin;refine wpList_append_own_at _ rfl _ _ 23 rfl w.heap.size 9 ti _ 1 16 Tryz.underlying23 hti htz0 htz1 htz2 rfl (by decide) _ (i + 1) _ rfl (World.ownsRow.alloc Hrow2.out _) ⟨_,0,none⟩ 1 1 [.string (bs kk)] rfl rfl (cell_one_new _ _ _) (by simp [Value.oneCell']) (by unfold maxLen;omega) (by omega) (by have:=Hsz2.out;simp;omega) ?_))
    intro v7 w7 ho7 hg7 _ hat7
    have HJ7:=Lib.hid (HJ.out.step Hg2.out Hki.out ho7 hg7)
    obtain ⟨so7,sn7,sc7,rfl⟩:=row_sl ho7
    clear hg7 ho7 hat7
    go_wp2_with fail
    go_roundg (N - (i + 1))
    case measure=>rw [Hg.out];omega
    case rel=>exact ⟨i + 1,_,_,_,rfl,by simp,⟨_,rfl⟩,by simp,rfl,by omega,HJ7.out⟩
   | real x =>
    obtain ⟨u,hvu,hc⟩:=Hcall.out (by simp) wr (World.grownBy.refl _ _)
    have hvu':v=.iface 68 u:=hvu
    subst hvu'
    clear hvu
    have ha:bs (spc (!fb)) ++ bs (prP ff (.real x))=bs (pcA ff (!fb) (.real x)):=by rw [bs_app];simp [pcA,sepA]
    have hz1:¬9223372036854775807 < (bs (spc (!fb))).size + (bs (prP ff (.real x))).size:=by rw [bs_size,bs_size];have:=Hsl.out;have:=Hlp.out;omega
    obtain ⟨kk,hkk⟩:∃ kk,kk=pcA ff (!fb) (.real x):=⟨_,rfl⟩
    rw [←hkk] at ha Hki
    generalize bs (spc (!fb))=sp at *
    generalize bs (prP ff (.real x))=zp at *
    have Hc:=Lib.hid (show Calls Tryz.prog 268 _ _ _ from hc)
    clear hc hkk Hcall HOv Hlp
    skip
    go_wp2_with fail
    refine Hc.out.mono ?_
    rintro e w2 ⟨rfl,hg2⟩
    have Hg2:=Lib.hid (World.grownBy.trans (World.grownBy.refl _ _) hg2)
    clear hg2
    skip
    have Hrow2:=Lib.hid (row_keptB HJ.out.row Hg2.out (fun k hk=>by simp))
    have Hsz2:=Lib.hid (Nat.le_trans HJ.out.grow.size Hg2.out.size)
    go_wp2_with (first | (at_builtin;refine wpList_append_own_at _ rfl _ _ 23 rfl w.heap.size 9 ti _ 1 16 Tryz.underlying23 hti htz0 htz1 htz2 rfl (by decide) _ (i + 1) _ rfl (World.ownsRow.alloc Hrow2.out _) ⟨_,0,none⟩ 1 1 [.string (bs kk)] rfl rfl (cell_one_new _ _ _) (by simp [Value.oneCell']) (by unfold maxLen;omega) (by omega) (by have:=Hsz2.out;simp;omega) ?_))
    intro v7 w7 ho7 hg7 _ hat7
    have HJ7:=Lib.hid (HJ.out.step Hg2.out Hki.out ho7 hg7)
    obtain ⟨so7,sn7,sc7,rfl⟩:=row_sl ho7
    clear hg7 ho7 hat7
    go_wp2_with fail
    go_roundg (N - (i + 1))
    case measure=>rw [Hg.out];omega
    case rel=>exact ⟨i + 1,_,_,_,rfl,by simp,⟨_,rfl⟩,by simp,rfl,by omega,HJ7.out⟩
   | lit s =>
    obtain ⟨u,hvu,hc⟩:=Hcall.out (by simp) wr (World.grownBy.refl _ _)
    have hvu':v=.iface 69 u:=hvu
    subst hvu'
    clear hvu
    have ha:bs (spc (!fb)) ++ bs (prP ff (.lit s))=bs (pcA ff (!fb) (.lit s)):=by rw [bs_app];simp [pcA,sepA]
    have hz1:¬9223372036854775807 < (bs (spc (!fb))).size + (bs (prP ff (.lit s))).size:=by rw [bs_size,bs_size];have:=Hsl.out;have:=Hlp.out;omega
    obtain ⟨kk,hkk⟩:∃ kk,kk=pcA ff (!fb) (.lit s):=⟨_,rfl⟩
    rw [←hkk] at ha Hki
    generalize bs (spc (!fb))=sp at *
    generalize bs (prP ff (.lit s))=zp at *
    have Hc:=Lib.hid (show Calls Tryz.prog 271 _ _ _ from hc)
    clear hc hkk Hcall HOv Hlp
    skip
    go_wp2_with fail
    refine Hc.out.mono ?_
    rintro e w2 ⟨rfl,hg2⟩
    have Hg2:=Lib.hid (World.grownBy.trans (World.grownBy.refl _ _) hg2)
    clear hg2
    skip
    have Hrow2:=Lib.hid (row_keptB HJ.out.row Hg2.out (fun k hk=>by simp))
    have Hsz2:=Lib.hid (Nat.le_trans HJ.out.grow.size Hg2.out.size)
    go_wp2_with (first | (at_builtin;refine wpList_append_own_at _ rfl _ _ 23 rfl w.heap.size 9 ti _ 1 16 Tryz.underlying23 hti htz0 htz1 htz2 rfl (by decide) _ (i + 1) _ rfl (World.ownsRow.alloc Hrow2.out _) ⟨_,0,none⟩ 1 1 [.string (bs kk)] rfl rfl (cell_one_new _ _ _) (by simp [Value.oneCell']) (by unfold maxLen;omega) (by omega) (by have:=Hsz2.out;simp;omega) ?_))
    intro v7 w7 ho7 hg7 _ hat7
    have HJ7:=Lib.hid (HJ.out.step Hg2.out Hki.out ho7 hg7)
    obtain ⟨so7,sn7,sc7,rfl⟩:=row_sl ho7
    clear hg7 ho7 hat7
    go_wp2_with fail
    go_roundg (N - (i + 1))
    case measure=>rw [Hg.out];omega
    case rel=>exact ⟨i + 1,_,_,_,rfl,by simp,⟨_,rfl⟩,by simp,rfl,by omega,HJ7.out⟩
   | hexl s =>
    obtain ⟨u,hvu,hc⟩:=Hcall.out (by simp) wr (World.grownBy.refl _ _)
    have hvu':v=.iface 70 u:=hvu
    subst hvu'
    clear hvu
    have ha:bs (spc (!fb)) ++ bs (prP ff (.hexl s))=bs (pcA ff (!fb) (.hexl s)):=by rw [bs_app];simp [pcA,sepA]
    have hz1:¬9223372036854775807 < (bs (spc (!fb))).size + (bs (prP ff (.hexl s))).size:=by rw [bs_size,bs_size];have:=Hsl.out;have:=Hlp.out;omega
    obtain ⟨kk,hkk⟩:∃ kk,kk=pcA ff (!fb) (.hexl s):=⟨_,rfl⟩
    rw [←hkk] at ha Hki
    generalize bs (spc (!fb))=sp at *
    generalize bs (prP ff (.hexl s))=zp at *
    have Hc:=Lib.hid (show Calls Tryz.prog 274 _ _ _ from hc)
    clear hc hkk Hcall HOv Hlp
    skip
    go_wp2_with fail
    refine Hc.out.mono ?_
    rintro e w2 ⟨rfl,hg2⟩
    have Hg2:=Lib.hid (World.grownBy.trans (World.grownBy.refl _ _) hg2)
    clear hg2
    skip
    have Hrow2:=Lib.hid (row_keptB HJ.out.row Hg2.out (fun k hk=>by simp))
    have Hsz2:=Lib.hid (Nat.le_trans HJ.out.grow.size Hg2.out.size)
    go_wp2_with (first | (at_builtin;refine wpList_append_own_at _ rfl _ _ 23 rfl w.heap.size 9 ti _ 1 16 Tryz.underlying23 hti htz0 htz1 htz2 rfl (by decide) _ (i + 1) _ rfl (World.ownsRow.alloc Hrow2.out _) ⟨_,0,none⟩ 1 1 [.string (bs kk)] rfl rfl (cell_one_new _ _ _) (by simp [Value.oneCell']) (by unfold maxLen;omega) (by omega) (by have:=Hsz2.out;simp;omega) ?_))
    intro v7 w7 ho7 hg7 _ hat7
    have HJ7:=Lib.hid (HJ.out.step Hg2.out Hki.out ho7 hg7)
    obtain ⟨so7,sn7,sc7,rfl⟩:=row_sl ho7
    clear hg7 ho7 hat7
    go_wp2_with fail
    go_roundg (N - (i + 1))
    case measure=>rw [Hg.out];omega
    case rel=>exact ⟨i + 1,_,_,_,rfl,by simp,⟨_,rfl⟩,by simp,rfl,by omega,HJ7.out⟩
   | name s =>
    obtain ⟨u,hvu,hc⟩:=Hcall.out (by simp) wr (World.grownBy.refl _ _)
    have hvu':v=.iface 71 u:=hvu
    subst hvu'
    clear hvu
    have ha:prP ff (.name s)=pcA ff (!fb) (.name s):=by simp [pcA,sepA,spc]
    rw [ha] at hc
    obtain ⟨kk,hkk⟩:∃ kk,kk=pcA ff (!fb) (.name s):=⟨_,rfl⟩
    rw [←hkk] at hc Hki
    generalize bs (spc (!fb))=sp at *
    clear ha
    have Hc:=Lib.hid (show Calls Tryz.prog 277 _ _ _ from hc)
    clear hc hkk Hcall HOv Hlp
    skip
    go_wp2_with fail
    refine Hc.out.mono ?_
    rintro e w2 ⟨rfl,hg2⟩
    have Hg2:=Lib.hid (World.grownBy.trans (World.grownBy.refl _ _) hg2)
    clear hg2
    skip
    have Hrow2:=Lib.hid (row_keptB HJ.out.row Hg2.out (fun k hk=>by simp))
    have Hsz2:=Lib.hid (Nat.le_trans HJ.out.grow.size Hg2.out.size)
    go_wp2_with (first | (at_builtin;refine wpList_append_own_at _ rfl _ _ 23 rfl w.heap.size 9 ti _ 1 16 Tryz.underlying23 hti htz0 htz1 htz2 rfl (by decide) _ (i + 1) _ rfl (World.ownsRow.alloc Hrow2.out _) ⟨_,0,none⟩ 1 1 [.string (bs kk)] rfl rfl (cell_one_new _ _ _) (by simp [Value.oneCell']) (by unfold maxLen;omega) (by omega) (by have:=Hsz2.out;simp;omega) ?_))
    intro v7 w7 ho7 hg7 _ hat7
    have HJ7:=Lib.hid (HJ.out.step Hg2.out Hki.out ho7 hg7)
    obtain ⟨so7,sn7,sc7,rfl⟩:=row_sl ho7
    clear hg7 ho7 hat7
    go_wp2_with fail
    go_roundg (N - (i + 1))
    case measure=>rw [Hg.out];omega
    case rel=>exact ⟨i + 1,_,_,_,rfl,by simp,⟨_,rfl⟩,by simp,rfl,by omega,HJ7.out⟩
   | ref n g =>
    obtain ⟨u,hvu,hc⟩:=Hcall.out (by simp) (wr.alloc (.cells #[.int .i64 n,.int .i64 g] 73)) (gr_alloc (World.grownBy.refl _ _) _)
    have hvu':v=.iface 73 u:=hvu
    subst hvu'
    clear hvu
    have hO:=HOv.out
    simp only [ObjO] at hO
    injection hO with hO1 hO2
    subst hO2
    have ha:bs (spc (!fb)) ++ bs (prP ff (.ref n g))=bs (pcA ff (!fb) (.ref n g)):=by rw [bs_app];simp [pcA,sepA]
    have hz1:¬9223372036854775807 < (bs (spc (!fb))).size + (bs (prP ff (.ref n g))).size:=by rw [bs_size,bs_size];have:=Hsl.out;have:=Hlp.out;omega
    obtain ⟨kk,hkk⟩:∃ kk,kk=pcA ff (!fb) (.ref n g):=⟨_,rfl⟩
    rw [←hkk] at ha Hki
    generalize bs (spc (!fb))=sp at *
    generalize bs (prP ff (.ref n g))=zp at *
    have Hc:=Lib.hid (show Calls Tryz.prog 285 _ _ _ from hc)
    clear hc hkk Hcall HOv Hlp
    skip
    go_wp2_with fail
    refine Hc.out.mono ?_
    rintro e w2 ⟨rfl,hg2⟩
    have Hg2:=Lib.hid (World.grownBy.trans (gr_alloc (World.grownBy.refl _ _) _) hg2)
    clear hg2
    skip
    have Hrow2:=Lib.hid (row_keptB HJ.out.row Hg2.out (fun k hk=>by simp))
    have Hsz2:=Lib.hid (Nat.le_trans HJ.out.grow.size Hg2.out.size)
    go_wp2_with (first | (at_builtin;refine wpList_append_own_at _ rfl _ _ 23 rfl w.heap.size 9 ti _ 1 16 Tryz.underlying23 hti htz0 htz1 htz2 rfl (by decide) _ (i + 1) _ rfl (World.ownsRow.alloc Hrow2.out _) ⟨_,0,none⟩ 1 1 [.string (bs kk)] rfl rfl (cell_one_new _ _ _) (by simp [Value.oneCell']) (by unfold maxLen;omega) (by omega) (by have:=Hsz2.out;simp;omega) ?_))
    intro v7 w7 ho7 hg7 _ hat7
    have HJ7:=Lib.hid (HJ.out.step Hg2.out Hki.out ho7 hg7)
    obtain ⟨so7,sn7,sc7,rfl⟩:=row_sl ho7
    clear hg7 ho7 hat7
    go_wp2_with fail
    go_roundg (N - (i + 1))
    case measure=>rw [Hg.out];omega
    case rel=>exact ⟨i + 1,_,_,_,rfl,by simp,⟨_,rfl⟩,by simp,rfl,by omega,HJ7.out⟩
   | arr ks =>
    obtain ⟨u,hvu,hc⟩:=Hcall.out (by simp) wr (World.grownBy.refl _ _)
    have hvu':v=.iface 77 u:=hvu
    subst hvu'
    clear hvu
    have ha:prP ff (.arr ks)=pcA ff (!fb) (.arr ks):=by simp [pcA,sepA,spc]
    rw [ha] at hc
    obtain ⟨kk,hkk⟩:∃ kk,kk=pcA ff (!fb) (.arr ks):=⟨_,rfl⟩
    rw [←hkk] at hc Hki
    generalize bs (spc (!fb))=sp at *
    clear ha
    have Hc:=Lib.hid (show Calls Tryz.prog 287 _ _ _ from hc)
    clear hc hkk Hcall HOv Hlp
    skip
    go_wp2_with fail
    refine Hc.out.mono ?_
    rintro e w2 ⟨rfl,hg2⟩
    have Hg2:=Lib.hid (World.grownBy.trans (World.grownBy.refl _ _) hg2)
    clear hg2
    skip
    have Hrow2:=Lib.hid (row_keptB HJ.out.row Hg2.out (fun k hk=>by simp))
    have Hsz2:=Lib.hid (Nat.le_trans HJ.out.grow.size Hg2.out.size)
    go_wp2_with (first | (at_builtin;refine wpList_append_own_at _ rfl _ _ 23 rfl w.heap.size 9 ti _ 1 16 Tryz.underlying23 hti htz0 htz1 htz2 rfl (by decide) _ (i + 1) _ rfl (World.ownsRow.alloc Hrow2.out _) ⟨_,0,none⟩ 1 1 [.string (bs kk)] rfl rfl (cell_one_new _ _ _) (by simp [Value.oneCell']) (by unfold maxLen;omega) (by omega) (by have:=Hsz2.out;simp;omega) ?_))
    intro v7 w7 ho7 hg7 _ hat7
    have HJ7:=Lib.hid (HJ.out.step Hg2.out Hki.out ho7 hg7)
    obtain ⟨so7,sn7,sc7,rfl⟩:=row_sl ho7
    clear hg7 ho7 hat7
    go_wp2_with fail
    go_roundg (N - (i + 1))
    case measure=>rw [Hg.out];omega
    case rel=>exact ⟨i + 1,_,_,_,rfl,by simp,⟨_,rfl⟩,by simp,rfl,by omega,HJ7.out⟩
   | dict ks vs =>
    obtain ⟨u,hvu,hc⟩:=Hcall.out (by simp) wr (World.grownBy.refl _ _)
    have hvu':v=.iface 81 u:=hvu
    subst hvu'
    clear hvu
    have ha:prP ff (.dict ks vs)=pcA ff (!fb) (.dict ks vs):=by simp [pcA,sepA,spc]
    rw [ha] at hc
    obtain ⟨kk,hkk⟩:∃ kk,kk=pcA ff (!fb) (.dict ks vs):=⟨_,rfl⟩
    rw [←hkk] at hc Hki
    generalize bs (spc (!fb))=sp at *
    clear ha
    have Hc:=Lib.hid (show Calls Tryz.prog 288 _ _ _ from hc)
    clear hc hkk Hcall HOv Hlp
    skip
    go_wp2_with fail
    refine Hc.out.mono ?_
    rintro e w2 ⟨rfl,hg2⟩
    have Hg2:=Lib.hid (World.grownBy.trans (World.grownBy.refl _ _) hg2)
    clear hg2
    skip
    have Hrow2:=Lib.hid (row_keptB HJ.out.row Hg2.out (fun k hk=>by simp))
    have Hsz2:=Lib.hid (Nat.le_trans HJ.out.grow.size Hg2.out.size)
    go_wp2_with (first | (at_builtin;refine wpList_append_own_at _ rfl _ _ 23 rfl w.heap.size 9 ti _ 1 16 Tryz.underlying23 hti htz0 htz1 htz2 rfl (by decide) _ (i + 1) _ rfl (World.ownsRow.alloc Hrow2.out _) ⟨_,0,none⟩ 1 1 [.string (bs kk)] rfl rfl (cell_one_new _ _ _) (by simp [Value.oneCell']) (by unfold maxLen;omega) (by omega) (by have:=Hsz2.out;simp;omega) ?_))
    intro v7 w7 ho7 hg7 _ hat7
    have HJ7:=Lib.hid (HJ.out.step Hg2.out Hki.out ho7 hg7)
    obtain ⟨so7,sn7,sc7,rfl⟩:=row_sl ho7
    clear hg7 ho7 hat7
    go_wp2_with fail
    go_roundg (N - (i + 1))
    case measure=>rw [Hg.out];omega
    case rel=>exact ⟨i + 1,_,_,_,rfl,by simp,⟨_,rfl⟩,by simp,rfl,by omega,HJ7.out⟩
  ·obtain rfl:i=N:=by omega
   have hnm:¬(i:Int) < i:=by omega
   skip
   go_wp2_with (first | (at_builtin;refine wpList_append_own_at _ rfl _ _ 23 rfl w.heap.size 9 ti _ 1 16 Tryz.underlying23 hti htz0 htz1 htz2 rfl (by decide) _ (i + 1) _ rfl (World.ownsRow.alloc HJ.out.row _) ⟨_,0,none⟩ 1 1 [.string (bs [93])] rfl rfl (cell_one_new _ _ _) (by simp [Value.oneCell']) (by unfold maxLen;omega) (by omega) (by have:=HJ.out.grow.size;simp;omega) ?_))
   intro v7 w7 ho7 hg7 _ hat7
   have hshape:∃ gg cap,v7=.slice (some ⟨gg,0,none⟩) (i + 1 + 1) cap:=by
    rcases ho7.2 with ⟨_,h0⟩ | ⟨gg,cap,cur,h,_⟩
    ·exact absurd h0 (by omega)
    ·exact ⟨gg,cap,h⟩
   obtain ⟨gg,cap7,rfl⟩:=hshape
   have HJ7:=Lib.hid (HJ.out.step (World.grownBy.refl _ _) HLz.out ho7 hg7)
   clear hg7 ho7 hat7
   have hjn:=join_any L w.heap.size (some ⟨gg,0,none⟩) (i + 2) cap7 w7 (by have:=HJ7.out.row;rw [List.take_of_length_le (by rw [List.length_map,HLl.out];exact Nat.le_refl _)] at this;rw [HLl.out];exact this) (by rw [HLl.out];omega) (by have:=HLf2.out;omega)
   have Hjn:=Lib.hid hjn
   clear hjn
   go_wp2_with fail
   refine Hjn.out.mono ?_
   rintro e w8 ⟨rfl,hg8⟩
   have Hg8:=Lib.hid hg8
   clear hg8
   go_wp2_with fail
   go_ret
   exact ⟨rfl,HJ7.out.grow.trans Hg8.out⟩
end Go.Proofs.YtfkecmlmnhbmoaaGreatDoor
