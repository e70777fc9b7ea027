/- FnParse: the texts G6 B2g of the workbench, laid together. -/
import Derived.Test.YtfkecmlmnhbmoaaGreatDoorProg
import Derived.WalkKit
import Derived.WalkLawsBesides
import Derived.WalkSpells
import Derived.BigQuiet
import Derived.BigRegion
import Derived.Deep.QuietTactic
import Derived.Deep.RegionHeld3
import Derived.Deep.LoopGhost
import Derived.StillTailTactics
import Derived.Lib.Hide
import Derived.Laws.EntriesVeiled
import Derived.Lib.Builder
import Derived.Lib.AppendStr
import Derived.Laws.Externs
import Derived.Test.YtfkecmlmnhbmoaaGreatDoorZ13
import Derived.Test.YtfkecmlmnhbmoaaGreatDoorZ18
set_option linter.unusedVariables false
set_option linter.unusedSimpArgs false
namespace Go.Proofs.YtfkecmlmnhbmoaaGreatDoor
open Go Go.RowKit
def BldAt (w:World) (b B:Nat) (l:By):Prop:=b < B∧B≤w.heap.size∧∃ p v,(p=.pointer none∨p=.pointer (some ⟨b,0,none⟩))∧w.heap[b]?=some (.cells #[p,v] 296 (0,0))∧OwnB B w v l
def KeptB (B b:Nat) (w w':World):Prop:=Below b w w'∧w.heap.size≤w'.heap.size∧(∀ k,k < B→k≠b→w'.heap[k]?=w.heap[k]?)∧∀ k,k < w.heap.size→k≠b→(∀ p v,w.heap[b]?=some (.cells #[p,v] 296 (0,0))→v.ownBlock≠some k)→w'.heap[k]?=w.heap[k]?
theorem BldAt.keep {w w':World} {b B:Nat} {l:By} (h:BldAt w b B l) {r:Option Nat} (hg:w.grownBy w' r) (hr:∀ k,r=some k→k < B∧k≠b):BldAt w' b B l:=by
  obtain ⟨h1,h2,p,v,h3,h4,h5⟩:=h
  refine ⟨h1,Nat.le_trans h2 hg.size,p,v,h3,(hg.block b (by omega) (fun e=>(hr b e.symm).2 rfl)).trans h4,h5.kept hg (fun k hk=>(hr k hk).1)⟩
set_option maxRecDepth 100000 in
set_option maxHeartbeats 40000000 in
theorem copy_any (w:World) (b B:Nat) (l:By) (h:BldAt w b B l):Calls Tryz.prog 230 #[.pointer (some ⟨b,0,none⟩)] w fun e w'=>e=.returned (.tuple #[])∧(∃ p v,w.heap[b]?=some (.cells #[p,v] 296 (0,0))∧w'.heap[b]?=some (.cells #[.pointer (some ⟨b,0,none⟩),v] 296 (0,0))∧OwnB B w' v l)∧w.grownBy w' (some b)∧w'.heap.size=w.heap.size:=by
  obtain ⟨h1,h2,p,v,h3,h4,h5⟩:=h
  have hinfo:(Tryz.prog.info? 296).map (fun i=>i.size)=some 2:=by kernel_rfl
  obtain ⟨j,hj,hjs⟩:=Option.map_eq_some_iff.1 hinfo
  have u294:=Tryz.underlying294
  have u314:=Tryz.underlying314
  rcases h3 with rfl | rfl
  · have c0:w.cell? ⟨b,0,none⟩=some (.pointer none):=by simp [World.cell?,h4]
    have f0:w.frozen? ⟨b,0,none⟩=false:=by simp [World.frozen?,h4]
    have hsh:w.shape? b=some (296,2):=by simp [World.shape?,h4]
    go_enter Tryz.func230,Tryz.ntmps230
    go_wp2
    rw [Lib.run_to_unsafe w ⟨b,0,none⟩ u294 u314 hj (by rw [hjs];decide) hsh (Nat.zero_lt_succ 1)]
    simp only [Result.andThen]
    rw [Oper.upon_value]
    go_wp2
    rw [run_callFunc_extern Tryz.func239 (by kernel_rfl) (by kernel_rfl) (by kernel_rfl) (e:=Extern.AbiNoEscape.same) (by kernel_rfl)]
    rw [Lib.run_noEscape]
    simp only [Result.andThen]
    rw [Oper.upon_value]
    go_wp2
    rw [Lib.run_from_unsafe w ⟨b,0,none⟩ u314 u294 hj hsh (by kernel_rfl)]
    simp only [Result.andThen]
    rw [Oper.upon_value]
    go_wp2
    go_end0
    exact ⟨rfl,⟨_,v,h4,by simp [World.setCell,Array.getElem?_modify,h4],h5.set h1 _⟩,gr_set (World.grownBy.refl _ _) _ _,by simp⟩
  · have c0:w.cell? ⟨b,0,none⟩=some (.pointer (some ⟨b,0,none⟩)):=by simp [World.cell?,h4]
    go_enter Tryz.func230,Tryz.ntmps230
    go_wp2
    rw [Lib.run_neq_ptr_same w _ u294 hj]
    go_wp2
    go_end0
    exact ⟨rfl,⟨_,v,h4,h4,h5⟩,World.grownBy.refl _ _,rfl⟩
def BldPost (B b:Nat) (w w':World) (l:By):Prop:=BldAt w' b B l∧KeptB B b w w'
theorem bld_store {w w1 wA w2:World} {b B:Nat} {l l':By} {v v' p0:Value} (hbB:b < B) (hBw:B≤w.heap.size) (hb0:w.heap[b]?=some (.cells #[p0,v] 296 (0,0))) (hb1:w1.heap[b]?=some (.cells #[.pointer (some ⟨b,0,none⟩),v] 296 (0,0))) (hv1:OwnB B w1 v l) (hg1:w.grownBy w1 (some b)) (hA3:w1.grownBy wA none)
    (hg2:wA.grownBy w2 v.ownBlock) (hv2:OwnB B w2 v' l'):BldPost B b w (w2.setCell ⟨b,1,none⟩ v') l':=by
  have hlt:b < w1.heap.size:=(Array.getElem?_eq_some_iff.1 hb1).1
  have hs1:=hg1.size
  have hA2:=hA3.size
  have hA4:∀ k,k < w1.heap.size→wA.heap[k]?=w1.heap[k]?:=fun k hk=>hA3.block k hk (by simp)
  have hA1:=hA4 b hlt
  have hne:some b≠v.ownBlock:=own_ne hv1 hbB
  have hb2:w2.heap[b]?=some (.cells #[.pointer (some ⟨b,0,none⟩),v] 296 (0,0)):=by
    rw [hg2.block b (by omega) hne,hA1];exact hb1
  have hs2:=hg2.size
  refine ⟨⟨hbB,by simp;omega,_,v',.inr rfl,by simp [World.setCell,Array.getElem?_modify,hb2],hv2.set hbB _⟩,⟨?_,?_,?_,?_,?_⟩,by simp;omega,?_,?_⟩
  · exact ((hg2.os.trans hA3.os).trans hg1.os)
  · exact ((hg2.tape.trans hA3.tape).trans hg1.tape)
  · exact ((hg2.output.trans hA3.output).trans hg1.output)
  · simp;omega
  · intro k hk
    rw [Below.heap_setCell _ _ _ _ (by simp;omega)]
    rw [hg2.block k (by omega) (fun e=>by have:=(hv1.lt k e.symm).1;omega),hA4 k (by omega)]
    exact hg1.block k (by omega) (by simp;omega)
  · intro k hk hkb
    rw [Below.heap_setCell _ _ _ _ (by simpa using hkb)]
    rw [hg2.block k (by omega) (fun e=>by have:=(hv1.lt k e.symm).1;omega),hA4 k (by omega)]
    exact hg1.block k (by omega) (by simp;omega)
  · intro k hk hkb hno
    rw [Below.heap_setCell _ _ _ _ (by simpa using hkb)]
    rw [hg2.block k (by omega) (fun e=>hno p0 v hb0 e.symm),hA4 k (by omega)]
    exact hg1.block k (by omega) (by simp;omega)
set_option maxRecDepth 100000 in
set_option maxHeartbeats 40000000 in
theorem wbyte_any (w:World) (b B:Nat) (l:By) (c:UInt8) (h:BldAt w b B l) (hl:l.length≤1000000000):Calls Tryz.prog 215 #[.pointer (some ⟨b,0,none⟩),.int .u8 c.toNat] w fun e w'=>e=.returned .nilIface∧BldPost B b w w' (l ++ [c]):=by
  have hbB:=h.1
  have hBw:=h.2.1
  go_enter Tryz.func215,Tryz.ntmps215
  go_wp2_with fail
  refine (copy_any w b B l h).mono ?_
  rintro e w1 ⟨rfl,⟨p0,v,hb0,hb1,hv1⟩,hg1,-⟩
  have Hb0:=Lib.hid hb0;clear hb0
  have hs1:=hg1.size
  have c0:w1.cell? ⟨b,0,none⟩=some (.pointer (some ⟨b,0,none⟩)):=by simp [World.cell?,hb1]
  have c1:w1.cell? ⟨b,1,none⟩=some v:=by simp [World.cell?,hb1]
  have hlt:b < w1.heap.size:=(Array.getElem?_eq_some_iff.1 hb1).1
  have Hb1:=Lib.hid hb1;clear hb1
  have Hv1:=Lib.hid hv1;clear hv1
  have Hg1:=Lib.hid hg1;clear hg1
  go_wp2_with (at_builtin;go_must (refine wpList_push rfl (.tmp 11) (.tmp 13) rfl B _ l c _ rfl (OwnB.alloc Hv1.out _) _ rfl (by rw [World.cell?_alloc_at _ _ _ _ (by simp)];rfl) rfl (by omega) (by first | omega | (simp;omega)) ?_))
  intro v1 w2 hown1 hgr1
  have hb2:w2.heap[b]?=some (.cells #[.pointer (some ⟨b,0,none⟩),v] 296 (0,0)):=by
    rw [hgr1.block b (by simp;omega) (own_ne Hv1.out hbB),Below.heap_alloc _ _ _ hlt];exact Hb1.out
  have d0:w2.cell? ⟨b,0,none⟩=some (.pointer (some ⟨b,0,none⟩)):=by simp [World.cell?,hb2]
  have d1:w2.cell? ⟨b,1,none⟩=some v:=by simp [World.cell?,hb2]
  have f1:w2.frozen? ⟨b,1,none⟩=false:=by simp [World.frozen?,hb2]
  obtain ⟨g,cap,rfl⟩:∃ g cap,v1=.slice (some ⟨g,0,none⟩) (l.length + 1) cap:=by
    rcases hown1.2 with ⟨_,h0⟩ | ⟨g,cap,cur,hv,_⟩
    · simp at h0
    · exact ⟨g,cap,by simpa using hv⟩
  have HP:=Lib.hid (bld_store hbB hBw Hb0.out Hb1.out Hv1.out Hg1.out (gr_alloc (World.grownBy.refl _ _) _) hgr1 hown1)
  clear hb2 hgr1 hown1
  go_wp2_with fail
  go_ret
  exact ⟨rfl,HP.out⟩
set_option maxRecDepth 100000 in
set_option maxHeartbeats 40000000 in
theorem wstr_any (w:World) (b B:Nat) (l:By) (t:By) (h:BldAt w b B l) (hl:l.length + t.length≤1000000000):Calls Tryz.prog 217 #[.pointer (some ⟨b,0,none⟩),.string (bs t)] w fun e w'=>(∃ k,e=.returned (.tuple #[k,.nilIface]))∧BldPost B b w w' (l ++ t):=by
  have hbB:=h.1
  have hBw:=h.2.1
  obtain ⟨i0,hi,hz0,hz1,hz2⟩:=info_parts Tryz.info5
  go_enter Tryz.func217,Tryz.ntmps217
  go_wp2_with fail
  refine (copy_any w b B l h).mono ?_
  rintro e w1 ⟨rfl,⟨p0,v,hb0,hb1,hv1⟩,hg1,-⟩
  have Hb0:=Lib.hid hb0;clear hb0
  have hs1:=hg1.size
  have c0:w1.cell? ⟨b,0,none⟩=some (.pointer (some ⟨b,0,none⟩)):=by simp [World.cell?,hb1]
  have c1:w1.cell? ⟨b,1,none⟩=some v:=by simp [World.cell?,hb1]
  have hlt:b < w1.heap.size:=(Array.getElem?_eq_some_iff.1 hb1).1
  have Hb1:=Lib.hid hb1;clear hb1
  have Hv1:=Lib.hid hv1;clear hv1
  have Hg1:=Lib.hid hg1;clear hg1
  have hts:(bs t).size=t.length:=bs_size t
  have Hts:=Lib.hid hts;clear hts
  go_wp2_with (at_builtin;refine Lib.wpList_append_own_string _ rfl _ _ 84 9 rfl B 5 i0 Tryz.underlying84 Tryz.underlying9 hi hz0 hz1 hz2 _ _ _ rfl Hv1.out (bs t) rfl (by rw [Hts.out];unfold maxLen;omega) (by rw [Hts.out];omega) (by omega) ?_)
  intro v1 w2 hown1 hgr1 _
  have hb2:w2.heap[b]?=some (.cells #[.pointer (some ⟨b,0,none⟩),v] 296 (0,0)):=by
    rw [hgr1.block b hlt (own_ne Hv1.out hbB)];exact Hb1.out
  have d0:w2.cell? ⟨b,0,none⟩=some (.pointer (some ⟨b,0,none⟩)):=by simp [World.cell?,hb2]
  have d1:w2.cell? ⟨b,1,none⟩=some v:=by simp [World.cell?,hb2]
  have f1:w2.frozen? ⟨b,1,none⟩=false:=by simp [World.frozen?,hb2]
  have hown2:OwnB B w2 v1 (l ++ t):=by
    unfold OwnB
    have e1:Lib.strCells (bs t)=t.map fun c=>Value.int .u8 (c.toNat:Int):=by simp [Lib.strCells,bs]
    rw [e1,Hts.out] at hown1
    simpa using hown1
  obtain ⟨ao,n',cap,rfl⟩:∃ ao n' cap,v1=.slice ao n' cap:=by
    rcases hown1.2 with ⟨hv,_⟩ | ⟨g,cap,cur,hv,_⟩
    · exact ⟨_,_,_,hv⟩
    · exact ⟨_,_,_,hv⟩
  have HP:=Lib.hid (bld_store hbB hBw Hb0.out Hb1.out Hv1.out Hg1.out (World.grownBy.refl _ _) hgr1 hown2)
  clear hb2 hgr1 hown1 hown2
  go_wp2_with fail
  go_ret2
  exact ⟨⟨_,rfl⟩,HP.out⟩
set_option maxRecDepth 100000 in
set_option maxHeartbeats 40000000 in
theorem arune_any (w:World) (B:Nat) (v:Value) (l:By) (c:UInt8) (hc:(c.toNat:Int) < 128) (h:OwnB B w v l) (hB:B≤w.heap.size) (hl:l.length≤1000000000):Calls Tryz.prog 234 #[v,.int .i32 c.toNat] w fun e w'=>∃ v',e=.returned v'∧OwnB B w' v' (l ++ [c])∧∃ o,(w.alloc o).grownBy w' v.ownBlock:=by
  have HV:=Lib.hid h
  clear h
  go_enter Tryz.func234,Tryz.ntmps234
  go_wp2_with (at_builtin;go_must (refine wpList_push rfl (.tmp 8) (.tmp 11) rfl B _ l c _ rfl (OwnB.alloc HV.out _) _ rfl (by rw [World.cell?_alloc_at _ _ _ _ (by simp)];rfl) rfl (by omega) (by first | omega | (simp;omega)) ?_))
  intro v1 w2 hown1 hgr1
  obtain ⟨g,cap,rfl⟩:∃ g cap,v1=.slice (some ⟨g,0,none⟩) (l.length + 1) cap:=by
    rcases hown1.2 with ⟨_,h0⟩ | ⟨g,cap,cur,hv,_⟩
    · simp at h0
    · exact ⟨g,cap,by simpa using hv⟩
  have HO:=Lib.hid hown1
  have HG:=Lib.hid hgr1
  clear hown1 hgr1
  go_wp2_with fail
  go_ret
  exact ⟨_,rfl,HO.out,_,HG.out⟩
set_option maxRecDepth 100000 in
set_option maxHeartbeats 40000000 in
theorem wrune_any (w:World) (b B:Nat) (l:By) (c:UInt8) (hc:(c.toNat:Int) < 128) (h:BldAt w b B l) (hl:l.length≤1000000000):Calls Tryz.prog 225 #[.pointer (some ⟨b,0,none⟩),.int .i32 c.toNat] w fun e w'=>(∃ k,e=.returned (.tuple #[k,.nilIface]))∧BldPost B b w w' (l ++ [c]):=by
  have hbB:=h.1
  have hBw:=h.2.1
  go_enter Tryz.func225,Tryz.ntmps225
  go_wp2_with fail
  refine (copy_any w b B l h).mono ?_
  rintro e w1 ⟨rfl,⟨p0,v,hb0,hb1,hv1⟩,hg1,-⟩
  have Hb0:=Lib.hid hb0;clear hb0
  have hs1:=hg1.size
  have c0:w1.cell? ⟨b,0,none⟩=some (.pointer (some ⟨b,0,none⟩)):=by simp [World.cell?,hb1]
  have c1:w1.cell? ⟨b,1,none⟩=some v:=by simp [World.cell?,hb1]
  have hlt:b < w1.heap.size:=(Array.getElem?_eq_some_iff.1 hb1).1
  obtain ⟨ao,n',cap',rfl⟩:∃ ao n' cap,v=.slice ao n' cap:=by
    rcases hv1.2 with ⟨hv,_⟩ | ⟨g,cap,cur,hv,_⟩
    · exact ⟨_,_,_,hv⟩
    · exact ⟨_,_,_,hv⟩
  have Hb1:=Lib.hid hb1;clear hb1
  have Hv1:=Lib.hid hv1;clear hv1
  have Hg1:=Lib.hid hg1;clear hg1
  go_wp2_with fail
  refine (arune_any w1 B _ l c hc Hv1.out (by omega) hl).mono ?_
  rintro e w2 ⟨v1,rfl,hown1,o,hgr1⟩
  have hb2:w2.heap[b]?=some (.cells #[.pointer (some ⟨b,0,none⟩),.slice ao n' cap'] 296 (0,0)):=by
    rw [hgr1.block b (by simp;omega) (own_ne Hv1.out hbB),Below.heap_alloc _ _ _ hlt];exact Hb1.out
  have d0:w2.cell? ⟨b,0,none⟩=some (.pointer (some ⟨b,0,none⟩)):=by simp [World.cell?,hb2]
  have d1:w2.cell? ⟨b,1,none⟩=some (.slice ao n' cap'):=by simp [World.cell?,hb2]
  have f1:w2.frozen? ⟨b,1,none⟩=false:=by simp [World.frozen?,hb2]
  obtain ⟨g,cap,rfl⟩:∃ g cap,v1=.slice (some ⟨g,0,none⟩) (l.length + 1) cap:=by
    rcases hown1.2 with ⟨_,h0⟩ | ⟨g,cap,cur,hv,_⟩
    · simp at h0
    · exact ⟨g,cap,by simpa using hv⟩
  have HP:=Lib.hid (bld_store hbB hBw Hb0.out Hb1.out Hv1.out Hg1.out (gr_alloc (World.grownBy.refl _ _) _) hgr1 hown1)
  clear hb2 hgr1 hown1
  go_wp2_with fail
  go_ret2
  exact ⟨⟨_,rfl⟩,HP.out⟩
theorem wtoS_any (w:World) (b B:Nat) (l:By) (h:BldAt w b B l):Calls Tryz.prog 219 #[.pointer (some ⟨b,0,none⟩)] w fun e w'=>e=.returned (.string (bs l))∧Below b w w':=by
  obtain ⟨h1,h2,p,v,h3,h4,h5⟩:=h
  have hrow:w.ownsRow b 5 1 v l.length (l.map fun c=>Value.int .u8 (c.toNat:Int)):=by
    obtain ⟨q1,q2⟩:=h5
    refine ⟨q1,?_⟩
    rcases q2 with q2 | ⟨g,cap,cur,hv,hb,rest⟩
    · exact .inl q2
    · exact .inr ⟨g,cap,cur,hv,by omega,rest⟩
  have hne:v.ownBlock≠some b:=fun e=>own_ne h5 h1 e.symm
  have hI:Lib.IsBuilder 296 5 b b (Lib.byteCells l) w:=by
    have hl:(Lib.byteCells l).length=l.length:=by simp [Lib.byteCells]
    rcases h3 with rfl | rfl
    · exact .inl ⟨Nat.le_refl _,v,h4,by rw [hl];exact hrow,hne⟩
    · exact .inr ⟨Nat.le_refl _,v,h4,by rw [hl];exact hrow,hne⟩
  exact Tryz.Builder_String_any b b l w hI (by omega)
theorem BldAt.fresh (w:World):BldAt (w.alloc (.cells #[.pointer none,.slice none 0 0] 296 (0,0))) w.heap.size (w.heap.size + 1) [] :=
  ⟨by omega,by simp,.pointer none,.slice none 0 0,.inl rfl,heap_alloc_new w _,OwnB.nil _ _⟩
end Go.Proofs.YtfkecmlmnhbmoaaGreatDoor
namespace Go.Proofs.YtfkecmlmnhbmoaaGreatDoor
open Go Go.RowKit
set_option maxRecDepth 100000 in
set_option maxHeartbeats 40000000 in
theorem ref_g (pf:By→Nat) (W0 w:World) (hI:Init W0) (hpf:PFC pf W0) (hE:Env W0 w) (b:Nat) (s:ByteArray) (p l:By) (deep:Int) (odd ends:Bool) (hR:RdAt w b s p l 0 deep odd ends) (hs:s.size≤140737488351240)
    (hW0:W0.heap.size≤b) (n:Int) (text:ByteArray) (tl:By) (htl:text.data.toList=tl) (hnum:numF pf tl=(2,n,0,0))
    {la:By} {oa:Bool} {gn:Int} {gx:Nat} (hP1:passM false l odd=(la,oa)) (hN:numF pf (wordT la)=(2,gn,gx,0))
    {lc:By} {oc:Bool} (hP5:passM false (wordR la) (wordO la oa)=(lc,oc)) {c:UInt8} {W:By} (hW:wordT lc=c::W) {O:Bool} (hO:wordO lc oc=O) (hw:c::W=[82]) (hdg':headIs (wordT la) isDig=false) :
    Calls Tryz.prog 64 #[.pointer (some ⟨b,0,none⟩),numV 2 n 0,.string text] w fun e w'=>RefPost w w' b s deep ends e (refF pf n tl l odd):=by
  have hst:((0:Int) == 1)=false:=rfl
  have HR:=Lib.hid hR
  have hbB:=hR.lt
  obtain ⟨c0,c1,c2,c3,c4,c5,cf⟩:=hR.cells
  have HI:=Lib.hid hI;clear hI
  have Hpf:=Lib.hid hpf;clear hpf
  have HE:=Lib.hid hE;clear hE
  have Htl:=Lib.hid htl;clear htl
  have Hnum:=Lib.hid hnum;clear hnum
  clear hR
  unfold numV
  go_enter Tryz.func64,Tryz.ntmps64
  go_wp2_with fail
  have hal:=alloc3 w (NB n) (.cells #[.int .i64 0,.int .i64 0,.int .i64 0,.float .f64 0,.string ⟨#[]⟩,.slice none 0 0,.slice none 0 0] 30 (0,0)) (.cells #[.string s,.int .i64 p.length,.int .i64 0,.int .i64 deep,.bool odd,.bool ends] 57 (0,0))
  refine (pass_any _ (w.heap.size + 1 + 1) s p l 0 deep odd ends (by exact ⟨HR.out.1,hal.2.2.1⟩) (by omega)).mono ?_
  rintro e w1 ⟨rfl,⟨p1,hA1⟩,hg1⟩
  have hI0:RefI w _ b s p l deep odd ends n p l odd:=⟨hal.2.2.2.2.but _,HR.out.grown hal.2.2.2.2 (by simp),⟨HR.out.1,hal.2.2.1⟩,hal.1,hal.2.1,hbB⟩
  have HJ:=Lib.hid (hI0.call hg1 hA1)
  clear hI0 hg1 hA1 hal c0 c1 c2 c3 c4 c5 cf
  rw [hP1] at HJ
  go_wp2_with fail
  refine (word_any _ (w.heap.size + 1 + 1) s p1 la 0 deep oa ends (by exact HJ.out.hA) (by omega)).mono ?_
  rintro e w2 ⟨rfl,hA2,hg2⟩
  have HJ2:=Lib.hid (HJ.out.call hg2 hA2)
  clear hg2 hA2 HJ
  have hsz2:(wordT la).length≤140737488351240:=by
    have:=HJ2.out.hA.size
    simp at this;omega
  generalize hsec:(⟨(wordT la).toArray⟩:ByteArray)=sec
  have hsz3:sec.size≤140737488351240:=by rw [←hsec];show (List.toArray (wordT la)).size≤140737488351240;simpa using hsz2
  have hsl:sec.data.toList=wordT la:=by rw [←hsec]
  have Hsec:=Lib.hid hsec;clear hsec
  have Hsl:=Lib.hid hsl;clear hsl
  go_wp2_with fail
  refine (number_any pf W0 _ HI.out Hpf.out (by exact HE.out.grown HJ2.out.hG (fun k hk=>by injection hk with hk;omega)) sec (wordT la) Hsl.out hsz3).mono ?_
  rintro e w3 ⟨rfl,hg3⟩
  have HJ3:=Lib.hid (HJ2.out.call0 hg3)
  clear hg3 HJ2
  rw [hN]
  have HP1:=Lib.hid hP1;clear hP1
  have HN:=Lib.hid hN;clear hN
  unfold numRet numV
  have hc9:w.heap.size + 1 + 1 < w3.heap.size:=HJ3.out.hA.lt
  have HJ4:=Lib.hid (HJ3.out.call0 (gr_alloc (World.grownBy.refl w3 none) (NG 2 gn gx)))
  have HN4:=Lib.hid (heap_alloc_new w3 (NG 2 gn gx))
  clear HJ3
  go_wp2_with fail
  refine (pass_any _ (w.heap.size + 1 + 1) s _ _ 0 deep _ ends (by exact HJ4.out.hA) (by omega)).mono ?_
  rintro e w5 ⟨rfl,⟨p5,hA5⟩,hg5⟩
  have HJ5:=Lib.hid (HJ4.out.call hg5 hA5)
  have HN5:=Lib.hid (keep hg5 HN4.out (by simp;omega))
  clear HJ4 HN4 hA5 hg5
  rw [hP5] at HJ5
  go_wp2_with fail
  refine (word_any _ (w.heap.size + 1 + 1) s p5 lc 0 deep oc ends (by exact HJ5.out.hA) (by omega)).mono ?_
  rintro e w6 ⟨rfl,hA6,hg6⟩
  have HJ6:=Lib.hid (HJ5.out.call hg6 hA6)
  have HN6:=Lib.hid (keep hg6 HN5.out (by simp;omega))
  clear HJ5 HN5 hA6 hg6
  have HP5:=Lib.hid hP5;clear hP5
  obtain ⟨c0,c1,c2,c3,c4,c5,cf⟩:=HJ6.out.hR.cells
  obtain ⟨a0,a1,a2,a3,a4,a5,af⟩:=HJ6.out.hA.cells
  obtain ⟨v0,v1,v2,v3,v4,v5,v6,vf⟩:=cells7 HJ6.out.hV
  obtain ⟨z0,z1,z2,z3,z4,z5,z6,zf⟩:=zb_cells HJ6.out.hZ
  obtain ⟨n0,n1,n2,n3,n4,n5,n6,nf⟩:=cells7 HN6.out
  have hb3:w.heap.size + 1 + 1 < w6.heap.size:=HJ6.out.hA.lt
  have hb4:b < w6.heap.size:=by omega
  have hb5:w.heap.size < w6.heap.size:=by omega
  have hb6:w.heap.size + 1 < w6.heap.size:=by omega
  have hn1:¬w.heap.size + 1=b:=by omega
  rw [hO] at a4 HJ6
  generalize hwd:(⟨(wordT lc).toArray⟩:ByteArray)=wd
  have hwl:wd.data.toList=wordT lc:=by rw [←hwd]
  have Hwd:=Lib.hid hwd;clear hwd
  have Hwl:=Lib.hid hwl;clear hwl
  rw [hW] at Hwl
  have HW:=Lib.hid hW;clear hW
  have HO:=Lib.hid hO;clear hO
  obtain ⟨hlt0,hc0,hd0,hr0,hr1⟩:=at_byte (pre:=[]) (by simpa using Hwl.out)
  simp only [List.length_nil] at hlt0 hc0 hd0
  have hwe:¬wd.toList=[]:=by rw [ByteArray.toList_eq,Hwl.out];simp
  have hie:wd.toList.isEmpty=false:=by rw [ByteArray.toList_eq,Hwl.out];rfl
  have hw1:wd.toList=[82]:=by rw [ByteArray.toList_eq,Hwl.out,hw]
  have h82:((c.toNat:Int) == 82)=true:=by injection hw with e1 e2;rw [e1];rfl
  have Hw:=Lib.hid hw;clear hw
  have hne:wordT la≠[]:=by intro e;have:=HN.out;rw [e] at this;simp [numF,numStrip,numScan] at this
  have hne2:tl≠[]:=by intro e;have:=Hnum.out;rw [e] at this;simp [numF,numStrip,numScan] at this
  obtain ⟨d,S,hS⟩:=List.exists_cons_of_ne_nil hne
  obtain ⟨t0,T,hT⟩:=List.exists_cons_of_ne_nil hne2
  have hs2:sec.data.toList=d::S:=Hsl.out.trans hS
  have ht2:text.data.toList=t0::T:=Htl.out.trans hT
  obtain ⟨hlts,hcs,hds,hrs0,hrs1⟩:=at_byte (pre:=[]) (by simpa using hs2)
  obtain ⟨hltt,hct,hdt,hrt0,hrt1⟩:=at_byte (pre:=[]) (by simpa using ht2)
  simp only [List.length_nil] at hlts hcs hds hltt hct hdt
  clear hs2 ht2 hne hne2
  have hdg:isDig (d.toNat:Int)=false:=by rw [hS] at hdg';exact hdg'
  have hres:=ref_1 (n:=n) (tl:=tl) HP1.out HN.out hst HP5.out HW.out HO.out (.inr (.inr (.inr (.inl hdg'))))
  have HS:=Lib.hid hS;clear hS
  have HT:=Lib.hid hT;clear hT
  have Hdg:=Lib.hid hdg';clear hdg'
  cases odd<;>cases O
  all_goals
    simp only [Bool.false_or,Bool.true_or,Bool.or_false,Bool.or_true,Bool.or_self,headIs,h82] at hres
    go_wp2_with (go_at_call 75;refine (digit_eq hdg _).mono ?_;rintro e w' ⟨rfl,rfl⟩)
    have Hres:=Lib.hid hres;clear hres
    refine bodyPost_ret (v:=valOf (.int n) nilS nilS) (by simp [results,Tryz.results64,go_sem,valOf,nilS,pvKind,pvInt,pvGen,pvReal,pvText,z0,z1,z2,z3,z4,z5,z6,hb3,hb4,hb5,hb6,hn1]) rfl ?_
    rw [Hres.out]
    refine ⟨rfl,⟨p,(by repeat (first | with_reducible exact HJ6.out.hR | with_reducible apply RdAt.alloc | with_reducible apply RdAt.set4 | ((with_reducible refine RdAt.setO ?_ ?_ _ _);rotate_left;(first | omega | (simp;omega)))))⟩,(by repeat (first | with_reducible exact HJ6.out.hG | with_reducible apply gr_alloc | with_reducible apply gr_drewN | with_reducible apply gr_drew | with_reducible apply gr_set | ((with_reducible refine gr_setM ?_ ?_ _ _);rotate_left;(first | omega | (simp;omega)))))⟩
set_option maxRecDepth 100000 in
set_option maxHeartbeats 40000000 in
theorem ref_h (pf:By→Nat) (W0 w:World) (hI:Init W0) (hpf:PFC pf W0) (hE:Env W0 w) (b:Nat) (s:ByteArray) (p l:By) (deep:Int) (odd ends:Bool) (hR:RdAt w b s p l 0 deep odd ends) (hs:s.size≤140737488351240)
    (hW0:W0.heap.size≤b) (n:Int) (text:ByteArray) (tl:By) (htl:text.data.toList=tl) (hnum:numF pf tl=(2,n,0,0))
    {la:By} {oa:Bool} {gn:Int} {gx:Nat} (hP1:passM false l odd=(la,oa)) (hN:numF pf (wordT la)=(2,gn,gx,0))
    {lc:By} {oc:Bool} (hP5:passM false (wordR la) (wordO la oa)=(lc,oc)) {c:UInt8} {W:By} (hW:wordT lc=c::W) {O:Bool} (hO:wordO lc oc=O) (hw:c::W=[82]) (hdg':headIs (wordT la) isDig=true) (hdt':headIs tl isDig=false) :
    Calls Tryz.prog 64 #[.pointer (some ⟨b,0,none⟩),numV 2 n 0,.string text] w fun e w'=>RefPost w w' b s deep ends e (refF pf n tl l odd):=by
  have hst:((0:Int) == 1)=false:=rfl
  have HR:=Lib.hid hR
  have hbB:=hR.lt
  obtain ⟨c0,c1,c2,c3,c4,c5,cf⟩:=hR.cells
  have HI:=Lib.hid hI;clear hI
  have Hpf:=Lib.hid hpf;clear hpf
  have HE:=Lib.hid hE;clear hE
  have Htl:=Lib.hid htl;clear htl
  have Hnum:=Lib.hid hnum;clear hnum
  clear hR
  unfold numV
  go_enter Tryz.func64,Tryz.ntmps64
  go_wp2_with fail
  have hal:=alloc3 w (NB n) (.cells #[.int .i64 0,.int .i64 0,.int .i64 0,.float .f64 0,.string ⟨#[]⟩,.slice none 0 0,.slice none 0 0] 30 (0,0)) (.cells #[.string s,.int .i64 p.length,.int .i64 0,.int .i64 deep,.bool odd,.bool ends] 57 (0,0))
  refine (pass_any _ (w.heap.size + 1 + 1) s p l 0 deep odd ends (by exact ⟨HR.out.1,hal.2.2.1⟩) (by omega)).mono ?_
  rintro e w1 ⟨rfl,⟨p1,hA1⟩,hg1⟩
  have hI0:RefI w _ b s p l deep odd ends n p l odd:=⟨hal.2.2.2.2.but _,HR.out.grown hal.2.2.2.2 (by simp),⟨HR.out.1,hal.2.2.1⟩,hal.1,hal.2.1,hbB⟩
  have HJ:=Lib.hid (hI0.call hg1 hA1)
  clear hI0 hg1 hA1 hal c0 c1 c2 c3 c4 c5 cf
  rw [hP1] at HJ
  go_wp2_with fail
  refine (word_any _ (w.heap.size + 1 + 1) s p1 la 0 deep oa ends (by exact HJ.out.hA) (by omega)).mono ?_
  rintro e w2 ⟨rfl,hA2,hg2⟩
  have HJ2:=Lib.hid (HJ.out.call hg2 hA2)
  clear hg2 hA2 HJ
  have hsz2:(wordT la).length≤140737488351240:=by
    have:=HJ2.out.hA.size
    simp at this;omega
  generalize hsec:(⟨(wordT la).toArray⟩:ByteArray)=sec
  have hsz3:sec.size≤140737488351240:=by rw [←hsec];show (List.toArray (wordT la)).size≤140737488351240;simpa using hsz2
  have hsl:sec.data.toList=wordT la:=by rw [←hsec]
  have Hsec:=Lib.hid hsec;clear hsec
  have Hsl:=Lib.hid hsl;clear hsl
  go_wp2_with fail
  refine (number_any pf W0 _ HI.out Hpf.out (by exact HE.out.grown HJ2.out.hG (fun k hk=>by injection hk with hk;omega)) sec (wordT la) Hsl.out hsz3).mono ?_
  rintro e w3 ⟨rfl,hg3⟩
  have HJ3:=Lib.hid (HJ2.out.call0 hg3)
  clear hg3 HJ2
  rw [hN]
  have HP1:=Lib.hid hP1;clear hP1
  have HN:=Lib.hid hN;clear hN
  unfold numRet numV
  have hc9:w.heap.size + 1 + 1 < w3.heap.size:=HJ3.out.hA.lt
  have HJ4:=Lib.hid (HJ3.out.call0 (gr_alloc (World.grownBy.refl w3 none) (NG 2 gn gx)))
  have HN4:=Lib.hid (heap_alloc_new w3 (NG 2 gn gx))
  clear HJ3
  go_wp2_with fail
  refine (pass_any _ (w.heap.size + 1 + 1) s _ _ 0 deep _ ends (by exact HJ4.out.hA) (by omega)).mono ?_
  rintro e w5 ⟨rfl,⟨p5,hA5⟩,hg5⟩
  have HJ5:=Lib.hid (HJ4.out.call hg5 hA5)
  have HN5:=Lib.hid (keep hg5 HN4.out (by simp;omega))
  clear HJ4 HN4 hA5 hg5
  rw [hP5] at HJ5
  go_wp2_with fail
  refine (word_any _ (w.heap.size + 1 + 1) s p5 lc 0 deep oc ends (by exact HJ5.out.hA) (by omega)).mono ?_
  rintro e w6 ⟨rfl,hA6,hg6⟩
  have HJ6:=Lib.hid (HJ5.out.call hg6 hA6)
  have HN6:=Lib.hid (keep hg6 HN5.out (by simp;omega))
  clear HJ5 HN5 hA6 hg6
  have HP5:=Lib.hid hP5;clear hP5
  obtain ⟨c0,c1,c2,c3,c4,c5,cf⟩:=HJ6.out.hR.cells
  obtain ⟨a0,a1,a2,a3,a4,a5,af⟩:=HJ6.out.hA.cells
  obtain ⟨v0,v1,v2,v3,v4,v5,v6,vf⟩:=cells7 HJ6.out.hV
  obtain ⟨z0,z1,z2,z3,z4,z5,z6,zf⟩:=zb_cells HJ6.out.hZ
  obtain ⟨n0,n1,n2,n3,n4,n5,n6,nf⟩:=cells7 HN6.out
  have hb3:w.heap.size + 1 + 1 < w6.heap.size:=HJ6.out.hA.lt
  have hb4:b < w6.heap.size:=by omega
  have hb5:w.heap.size < w6.heap.size:=by omega
  have hb6:w.heap.size + 1 < w6.heap.size:=by omega
  have hn1:¬w.heap.size + 1=b:=by omega
  rw [hO] at a4 HJ6
  generalize hwd:(⟨(wordT lc).toArray⟩:ByteArray)=wd
  have hwl:wd.data.toList=wordT lc:=by rw [←hwd]
  have Hwd:=Lib.hid hwd;clear hwd
  have Hwl:=Lib.hid hwl;clear hwl
  rw [hW] at Hwl
  have HW:=Lib.hid hW;clear hW
  have HO:=Lib.hid hO;clear hO
  obtain ⟨hlt0,hc0,hd0,hr0,hr1⟩:=at_byte (pre:=[]) (by simpa using Hwl.out)
  simp only [List.length_nil] at hlt0 hc0 hd0
  have hwe:¬wd.toList=[]:=by rw [ByteArray.toList_eq,Hwl.out];simp
  have hie:wd.toList.isEmpty=false:=by rw [ByteArray.toList_eq,Hwl.out];rfl
  have hw1:wd.toList=[82]:=by rw [ByteArray.toList_eq,Hwl.out,hw]
  have h82:((c.toNat:Int) == 82)=true:=by injection hw with e1 e2;rw [e1];rfl
  have Hw:=Lib.hid hw;clear hw
  have hne:wordT la≠[]:=by intro e;have:=HN.out;rw [e] at this;simp [numF,numStrip,numScan] at this
  have hne2:tl≠[]:=by intro e;have:=Hnum.out;rw [e] at this;simp [numF,numStrip,numScan] at this
  obtain ⟨d,S,hS⟩:=List.exists_cons_of_ne_nil hne
  obtain ⟨t0,T,hT⟩:=List.exists_cons_of_ne_nil hne2
  have hs2:sec.data.toList=d::S:=Hsl.out.trans hS
  have ht2:text.data.toList=t0::T:=Htl.out.trans hT
  obtain ⟨hlts,hcs,hds,hrs0,hrs1⟩:=at_byte (pre:=[]) (by simpa using hs2)
  obtain ⟨hltt,hct,hdt,hrt0,hrt1⟩:=at_byte (pre:=[]) (by simpa using ht2)
  simp only [List.length_nil] at hlts hcs hds hltt hct hdt
  clear hs2 ht2 hne hne2
  have hdg:isDig (d.toNat:Int)=true:=by rw [hS] at hdg';exact hdg'
  have hdt2:isDig (t0.toNat:Int)=false:=by rw [hT] at hdt';exact hdt'
  have hres:=ref_1 (n:=n) (tl:=tl) HP1.out HN.out hst HP5.out HW.out HO.out (.inr (.inr (.inr (.inr hdt'))))
  have HS:=Lib.hid hS;clear hS
  have HT:=Lib.hid hT;clear hT
  have Hdg:=Lib.hid hdg';clear hdg'
  have Hdt:=Lib.hid hdt';clear hdt'
  cases odd<;>cases O
  all_goals
    simp only [Bool.false_or,Bool.true_or,Bool.or_false,Bool.or_true,Bool.or_self,headIs,h82] at hres
    go_wp2_with (go_at_call 75;first | (refine (digit_eq hdg _).mono ?_;rintro e w' ⟨rfl,rfl⟩) | (refine (digit_eq hdt2 _).mono ?_;rintro e w' ⟨rfl,rfl⟩))
    have Hres:=Lib.hid hres;clear hres
    refine bodyPost_ret (v:=valOf (.int n) nilS nilS) (by simp [results,Tryz.results64,go_sem,valOf,nilS,pvKind,pvInt,pvGen,pvReal,pvText,z0,z1,z2,z3,z4,z5,z6,hb3,hb4,hb5,hb6,hn1]) rfl ?_
    rw [Hres.out]
    refine ⟨rfl,⟨p,(by repeat (first | with_reducible exact HJ6.out.hR | with_reducible apply RdAt.alloc | with_reducible apply RdAt.set4 | ((with_reducible refine RdAt.setO ?_ ?_ _ _);rotate_left;(first | omega | (simp;omega)))))⟩,(by repeat (first | with_reducible exact HJ6.out.hG | with_reducible apply gr_alloc | with_reducible apply gr_drewN | with_reducible apply gr_drew | with_reducible apply gr_set | ((with_reducible refine gr_setM ?_ ?_ _ _);rotate_left;(first | omega | (simp;omega)))))⟩
end Go.Proofs.YtfkecmlmnhbmoaaGreatDoor
