/- The texts F21 R1 L3 D2 U4 D13 D14 of the workbench, laid together. -/
import Derived.Test.YtfkecmlmnhbmoaaGreatDoorProg
import Derived.WalkKit
import Derived.WalkLawsBesides
import Derived.WalkSpells
import Derived.BigQuiet
import Derived.BigRegion
import Derived.Deep.QuietTactic
import Derived.Deep.RegionHeld3
import Derived.Deep.LoopGhost
import Derived.StillTailTactics
import Derived.Lib.Hide
import Derived.Laws.EntriesVeiled
import Derived.Lib.LaidPrint
import Derived.PinnedBridge
import Derived.OpenShut
import Derived.Test.YtfkecmlmnhbmoaaGreatDoorRows
import Derived.LaidLaws
import Derived.ProofKit
import Derived.ChangeSame
import Derived.Test.YtfkecmlmnhbmoaaGreatDoorY16
import Derived.Test.YtfkecmlmnhbmoaaGreatDoorY27
import Derived.Test.YtfkecmlmnhbmoaaGreatDoorY29
import Derived.Test.YtfkecmlmnhbmoaaGreatDoorY31
import Derived.Test.YtfkecmlmnhbmoaaGreatDoorY40
import Derived.Test.YtfkecmlmnhbmoaaGreatDoorY41
import Derived.Test.YtfkecmlmnhbmoaaGreatDoorY42
set_option linter.unusedVariables false
set_option linter.unusedSimpArgs false
namespace Go.Proofs.YtfkecmlmnhbmoaaGreatDoor
open Go Go.RowKit
theorem numOk_len {l:By} (h:numOk l):l.length≤62:=by
 obtain ⟨pre,c,l1,d,a,rfl,hp,_,hsc,h1,h2,h3⟩:=numOk_parts h
 have:=scan_mono _ _ _ _ _ _ _ hsc
 rw [List.length_append]
 rcases hp with rfl | rfl | rfl<;>simp at this ⊢<;>omega
theorem a64_ex (W0:World) (hF:FInit3 W0) (l:By) (hok:numOk l):∃ x,nnF x∧A64 W0 l ⟨l.toArray⟩ x:=by
 have hl:=numOk_len hok
 have hs2:(⟨l.toArray⟩:ByteArray).size≤1000:=by show l.toArray.size≤1000;simp;omega
 by_cases hM:(rfF (numStrip l) 0 0 0 false).1=0
 ·exact a64_zero W0 hF l hok _ rfl hs2 hM
 ·cases htr:(rfF (numStrip l) 0 0 0 false).2.2.2
  ·exact a64_short W0 hF l hok _ rfl hs2 hM htr
  ·exact a64_long W0 hF l hok _ rfl hs2 hM htr
set_option maxRecDepth 100000 in
set_option maxHeartbeats 40000000 in
theorem pf_ex (W0:World) (hF:FInit3 W0) (l:By) (hok:numOk l):∃ x:Nat,nnF x∧∀ w:World,Env W0 w→Calls Tryz.prog 57 #[.string ⟨l.toArray⟩,.int .i64 64] w fun e w'=>e=.returned (.tuple #[.float .f64 x,.nilIface])∧w.grownBy w' none:=by
 obtain ⟨x,hxn,hx⟩:=a64_ex W0 hF l hok
 generalize (⟨l.toArray⟩:ByteArray)=s at hx ⊢
 have hss:((s.size:Int) != (s.size:Int))=false:=by simp
 have H64:=Lib.hid hx
 clear hx
 have y30:∀ (a b c:Value),([a,b,c]:List Value)[0]?=some a:=fun _ _ _=>rfl
 have y31:∀ (a b c:Value),([a,b,c]:List Value)[1]?=some b:=fun _ _ _=>rfl
 have y32:∀ (a b c:Value),([a,b,c]:List Value)[2]?=some c:=fun _ _ _=>rfl
 refine ⟨x,hxn,fun w hE=>?_⟩
 clear hxn
 have h85:Calls Tryz.prog 85 #[.string s,.int .i64 64] w fun e w'=>e=.returned (.tuple #[.float .f64 x,.int .i64 s.size,.nilIface])∧w.grownBy w' none:=by
  go_enter Tryz.func85,Tryz.ntmps85
  go_wp2_with fail
  refine (H64.out w hE).mono ?_
  rintro e w1 ⟨rfl,hg⟩
  have Hg:=Lib.hid hg;clear hg
  go_wp2_with fail
  go_ret3
  exact ⟨rfl,Hg.out⟩
 have H85:=Lib.hid h85
 clear h85
 have h72:Calls Tryz.prog 72 #[.string s,.int .i64 64] w fun e w'=>e=.returned (.tuple #[.float .f64 x,.nilIface])∧w.grownBy w' none:=by
  go_enter Tryz.func72,Tryz.ntmps72
  go_wp2_with fail
  refine H85.out.mono ?_
  rintro e w1 ⟨rfl,hg⟩
  have Hg:=Lib.hid hg;clear hg
  go_wp2_with fail
  go_ret2
  exact ⟨rfl,Hg.out⟩
 have H72:=Lib.hid h72
 clear h72
 go_enter Tryz.func57,Tryz.ntmps57
 go_wp2_with fail
 refine H72.out.mono ?_
 rintro e w1 ⟨rfl,hg⟩
 have Hg:=Lib.hid hg;clear hg
 go_wp2_with fail
 go_ret2
 exact ⟨rfl,Hg.out⟩
open Classical in
theorem PFC_ex (W0:World) (hF:FInit3 W0):∃ pf,PFC pf W0∧∀ l,numOk l→nnF (pf l):=by
 refine ⟨fun l=>if h:numOk l then Classical.choose (pf_ex W0 hF l h) else 0,fun l w hok hE=>?_,fun l hok=>?_⟩
 rotate_left
 ·simp only [dif_pos hok]
  exact (Classical.choose_spec (pf_ex W0 hF l hok)).1
 have h:=(Classical.choose_spec (pf_ex W0 hF l hok)).2 w hE
 simp only [dif_pos hok]
 exact h
end Go.Proofs.YtfkecmlmnhbmoaaGreatDoor
namespace Go.Proofs.YtfkecmlmnhbmoaaGreatDoor
open Go Go.RowKit
open Go.Lib
section
variable {P:Program} {w:World}
theorem trod_float {k:FloatKind} {t:TypeId} {fuel:Nat} {cs:List Value} {x:DataW Unit × List MemPlace} (ht:P.underlying t=some (.float k)) (h:DataW.trod (fun _=>()) P w 0 (fun _=>true) false fuel t cs=some x):∃ n,cs=[.float k n]∧x.1=.lit (.float k n):=by
 cases fuel with
 | zero=>simp [DataW.trod] at h
 | succ n =>
  unfold DataW.trod at h
  rw [ht] at h
  split at h<;>simp_all
  all_goals first
   | (obtain ⟨_,h⟩:=h;rw [←h])
   | rw [←h]
theorem addr_add2 (a:Addr) (n m:Nat):(a.add n).add m=a.add (n + m):=by
 unfold Addr.add
 by_cases h1:n=0
 ·subst h1;simp
 ·by_cases h2:m=0
  ·subst h2;simp
  ·simp [h1,h2,Nat.add_assoc]
theorem slice_of_reads {name:String} {g:Nat} {t e:TypeId} {sz:Nat} {ds:List (DataW Unit)} (hn:P.globalNamed name=some g) (hy:(P.globals[g]?).map (·.type)=some t) (ht:P.underlying t=some (.slice e)) (hc:P.cellsOf e=sz) (hsz:1≤sz) (hl:0 < ds.length) (h:VarReads P w name (.slice ds [])) :
  ∃ R o cap,w.cell? ⟨g,0,none⟩=some (.slice (some ⟨R,o,none⟩) ds.length cap)∧∀ (i:Nat) d,ds[i]?=some d→∃ (n:Nat) (cs:List Value) (q:List MemPlace),DataW.trod (fun _=>()) P w 0 (fun _=>true) false n e cs=some (d,q)∧cs.length=sz∧∀ j,j < sz→w.cell? ⟨R,o + i * sz + j,none⟩=cs[j]?:=by
 obtain ⟨g',t',cs,fuel,p,hg,hty,hvar,hd⟩:=h
 obtain rfl:=Option.some.inj (hn.symm.trans hg)
 obtain rfl:=Option.some.inj (hy.symm.trans hty)
 rcases DataW.trod_slice ht hd with ⟨_,hx⟩ | ⟨a,len,cap,el,rs,m,rfl,hcs,hx,_,hlc,_,hel,helem,hsp,_⟩
 ·cases hx
 have e0:=congrArg Prod.fst hx
 simp only [DataW.slice.injEq] at e0
 obtain ⟨eE,eR⟩:=e0
 have hlen:len=ds.length:=by
  have:=congrArg List.length eE
  simp at this
  omega
 have hel2:∀ (i:Nat) d,ds[i]?=some d→∃ (cs:List Value) (q:List MemPlace),DataW.trod (fun _=>()) P w 0 (fun _=>true) false m e cs=some (d,q)∧cs.length=sz∧∀ j,j < sz→w.cell? (a.add (i * sz + j))=cs[j]?:=by
  intro i d hi
  have hlt:=(List.getElem?_eq_some_iff.1 hi).1
  have h1:=helem i (by omega)
  rw [hc] at h1
  obtain ⟨b,hb⟩:∃ b,el[i]?=some b:=⟨el[i]'(by omega),List.getElem?_eq_getElem (by omega)⟩
  rw [hb] at h1
  obtain ⟨ce,hce,hte⟩:=Option.bind_eq_some_iff.1 h1
  have hb1:b.1=d:=by
   have:=congrArg (·[i]?) eE
   simp only [List.getElem?_map,hb,hi,Option.map_some,Option.some.injEq] at this
   exact this.symm
  obtain ⟨_,hcl,hcc⟩:=World.cells?_some hce
  refine ⟨ce,b.2,by rw [←hb1];exact hte,hcl,fun j hj=>?_⟩
  have:=hcc j hj
  rw [addr_add2] at this
  exact this
 obtain ⟨R,o,sR⟩:=a
 obtain ⟨d0,hd0⟩:∃ d,ds[0]?=some d:=⟨_,List.getElem?_eq_getElem hl⟩
 obtain rfl:sR=none:=by
  obtain ⟨cs0,_,_,hl0,h00⟩:=hel2 0 d0 hd0
  have h00:=h00 0 (by omega)
  obtain ⟨c0,hc0⟩:∃ c,cs0[0]?=some c:=⟨_,List.getElem?_eq_getElem (by omega)⟩
  rw [hc0,show (Addr.add ⟨R,o,sR⟩ (0 * sz + 0))=⟨R,o,sR⟩ by simp [Addr.add]] at h00
  exact Go.Proofs.cell_spot h00
 refine ⟨R,o,cap,?_,fun i d hi=>?_⟩
 ·rw [World.var?_cell hg hvar 0,←Array.getElem?_toList,hcs,hlen]
  rfl
 ·obtain ⟨cs0,q,h1,h2,h3⟩:=hel2 i d hi
  refine ⟨m,cs0,q,h1,h2,fun j hj=>?_⟩
  have:=h3 j hj
  rwa [Addr.add_lit,←Nat.add_assoc] at this
theorem struct_cells {t:TypeId} {fs:Array Field} {fuel:Nat} {cs:List Value} {ds:List (DataW Unit)} {p:List MemPlace} (ht:P.underlying t=some (.struct fs)) (hct:P.cellsOf t=fs.size) (hf:∀ (i:Nat) (f:Field),fs[i]?=some f→f.offset=i∧P.cellsOf f.type=1)
  (h:DataW.trod (fun _=>()) P w 0 (fun _=>true) false fuel t cs=some (.agg ds,p)):∀ (i:Nat) (f:Field),fs[i]?=some f→∃ (n:Nat) (d:DataW Unit) (q:List MemPlace) (c:Value),ds[i]?=some d∧cs[i]?=some c∧DataW.trod (fun _=>()) P w 0 (fun _=>true) false n f.type [c]=some (d,q):=by
 obtain ⟨xs,n,rfl,hx,hl,hxl,hall⟩:=DataW.trod_struct ht h
 intro i f hi
 obtain ⟨ho,hc⟩:=hf i f hi
 have hlt:=(Array.getElem?_eq_some_iff.1 hi).1
 have h1:=hall i f hi
 obtain ⟨b,hb⟩:∃ b,xs[i]?=some b:=⟨xs[i]'(by omega),List.getElem?_eq_getElem (by omega)⟩
 obtain ⟨c,hcs⟩:∃ c,cs[i]?=some c:=⟨cs[i]'(by omega),List.getElem?_eq_getElem (by omega)⟩
 have hds:xs.map (·.1)=ds:=by
  have:=congrArg Prod.fst hx
  simpa using this.symm
 have htk:(cs.drop i).take 1=[c]:=by
  have e:=List.drop_eq_getElem_cons (l:=cs) (i:=i) (by omega)
  rw [e,(List.getElem?_eq_some_iff.1 hcs).2]
  rfl
 rw [ho,hc,htk,hb] at h1
 exact ⟨n,b.1,b.2,c,by rw [←hds];simp [hb],hcs,h1⟩
end
theorem opt_of {W:World} (h:VarReads Tryz.prog W "internal/strconv.optimize" Rows.laid_internal_strconv_optimize):W.cell? ⟨4,0,none⟩=some (.bool true):=by
 obtain ⟨g,t,cs,fuel,p,hg,hty,hvar,hd⟩:=h
 obtain rfl:=Option.some.inj ((show Tryz.prog.globalNamed "internal/strconv.optimize" = some 4 by kernel_rfl).symm.trans hg)
 obtain rfl:=Option.some.inj ((show (Tryz.prog.globals[4]?).map (·.type)=some 4 by kernel_rfl).symm.trans hty)
 obtain ⟨b,hb,hx⟩:=DataW.trod_bool Tryz.underlying4 hd
 have hx:=congrArg Prod.fst hx
 simp only [Rows.laid_internal_strconv_optimize,DataW.lit.injEq,Lit.bool.injEq] at hx
 subst hx
 rw [World.var?_cell hg hvar 0,←Array.getElem?_toList,hb]
 rfl
theorem info_of {W:World} (h:VarReads Tryz.prog W "internal/strconv.float64info" Rows.laid_internal_strconv_float64info):W.cell? ⟨11,0,none⟩=some (.int .u64 52)∧W.cell? ⟨11,1,none⟩=some (.int .u64 11)∧W.cell? ⟨11,2,none⟩=some (.int .i64 (-1023)):=by
 obtain ⟨g,t,cs,fuel,p,hg,hty,hvar,hd⟩:=h
 obtain rfl:=Option.some.inj ((show Tryz.prog.globalNamed "internal/strconv.float64info" = some 11 by kernel_rfl).symm.trans hg)
 obtain rfl:=Option.some.inj ((show (Tryz.prog.globals[11]?).map (·.type)=some 218 by kernel_rfl).symm.trans hty)
 have hs:=struct_cells Tryz.underlying218 (by kernel_rfl) (fun i f hf=>by
  match i,hf with
  | 0,hf=>simp at hf;subst hf;exact ⟨rfl,by kernel_rfl⟩
  | 1,hf=>simp at hf;subst hf;exact ⟨rfl,by kernel_rfl⟩
  | 2,hf=>simp at hf;subst hf;exact ⟨rfl,by kernel_rfl⟩
  | i + 3,hf=>simp at hf) hd
 obtain ⟨n0,d0,q0,c0,a0,b0,t0⟩:=hs 0 _ rfl
 obtain ⟨n1,d1,q1,c1,a1,b1,t1⟩:=hs 1 _ rfl
 obtain ⟨n2,d2,q2,c2,a2,b2,t2⟩:=hs 2 _ rfl
 obtain ⟨z0,e0,f0,_⟩:=DataW.trod_int (k:=.u64) (by kernel_rfl) t0
 obtain ⟨z1,e1,f1,_⟩:=DataW.trod_int (k:=.u64) (by kernel_rfl) t1
 obtain ⟨z2,e2,f2,_⟩:=DataW.trod_int (k:=.i64) (by kernel_rfl) t2
 simp only [List.cons.injEq,and_true] at e0 e1 e2
 simp only [Prod.mk.injEq] at f0 f1 f2
 obtain ⟨rfl,_⟩:=f0
 obtain ⟨rfl,_⟩:=f1
 obtain ⟨rfl,_⟩:=f2
 subst e0;subst e1;subst e2
 simp at a0 a1 a2
 subst a0;subst a1;subst a2
 exact ⟨by rw [World.var?_cell hg hvar 0,←Array.getElem?_toList];exact b0,by rw [World.var?_cell hg hvar 1,←Array.getElem?_toList];exact b1,by rw [World.var?_cell hg hvar 2,←Array.getElem?_toList];exact b2⟩
theorem powtab_of {W:World} (h:VarReads Tryz.prog W "internal/strconv.powtab" Rows.laid_internal_strconv_powtab):∃ pb po pc,W.cell? ⟨19,0,none⟩=some (.slice (some ⟨pb,po,none⟩) 9 pc)∧∀ d:Nat,d < 9→W.cell? ⟨pb,po + d,none⟩=some (.int .i64 (ptab d)):=by
 obtain ⟨R,o,cap,h1,h2⟩:=tabSlice_of_reads (l:=[1,3,6,9,13,16,19,23,26]) (g:=19) (t:=111) (e:=3) (by kernel_rfl) (by kernel_rfl) Tryz.underlying111 Tryz.underlying3 (by kernel_rfl) (by decide) h
 refine ⟨R,o,cap,h1,fun d hd=>?_⟩
 rw [h2 d hd]
 match d,hd with
 | 0,_=>rfl
 | 1,_=>rfl
 | 2,_=>rfl
 | 3,_=>rfl
 | 4,_=>rfl
 | 5,_=>rfl
 | 6,_=>rfl
 | 7,_=>rfl
 | 8,_=>rfl
 | d + 9,hd=>omega
theorem pow10_of {W:World} (h:VarReads Tryz.prog W "internal/strconv.pow10Tab" Go.Pinned.pow10Tab):∀ i:Nat,i < 696→∃ h l:Nat,h < 18446744073709551616∧l < 18446744073709551616∧W.cell? ⟨21,i * 2,none⟩=some (.int .u64 h)∧W.cell? ⟨21,i * 2 + 1,none⟩=some (.int .u64 l):=by
 obtain ⟨g,t,cs,fuel,p,hg,hty,hvar,hd⟩:=h
 obtain rfl:=Option.some.inj ((show Tryz.prog.globalNamed "internal/strconv.pow10Tab" = some 21 by kernel_rfl).symm.trans hg)
 obtain rfl:=Option.some.inj ((show (Tryz.prog.globals[21]?).map (·.type)=some 282 by kernel_rfl).symm.trans hty)
 intro i hi
 obtain ⟨fuel',d,q,hdi,he⟩:=array_elem Tryz.underlying282 hd i hi
 have hc2:Tryz.prog.cellsOf 281=2:=by kernel_rfl
 rw [hc2] at he
 have hdm:∃ x:Nat × Nat,d=.agg [.lit (.int .u64 x.1),.lit (.int .u64 x.2)]:=by
  rw [List.getElem?_map] at hdi
  obtain ⟨x,_,hx⟩:=Option.map_eq_some_iff.1 hdi
  exact ⟨x,hx.symm⟩
 obtain ⟨x,rfl⟩:=hdm
 have hs:=struct_cells Tryz.underlying281 (by kernel_rfl) (fun i f hf=>by
  match i,hf with
  | 0,hf=>simp at hf;subst hf;exact ⟨rfl,by kernel_rfl⟩
  | 1,hf=>simp at hf;subst hf;exact ⟨rfl,by kernel_rfl⟩
  | i + 2,hf=>simp at hf) he
 obtain ⟨n0,d0,q0,c0,a0,b0,t0⟩:=hs 0 _ rfl
 obtain ⟨n1,d1,q1,c1,a1,b1,t1⟩:=hs 1 _ rfl
 obtain ⟨z0,e0,f0,w0⟩:=DataW.trod_int (k:=.u64) (by kernel_rfl) t0
 obtain ⟨z1,e1,f1,w1⟩:=DataW.trod_int (k:=.u64) (by kernel_rfl) t1
 simp only [List.cons.injEq,and_true] at e0 e1
 simp only [Prod.mk.injEq] at f0 f1
 obtain ⟨rfl,_⟩:=f0
 obtain ⟨rfl,_⟩:=f1
 subst e0;subst e1
 simp only [List.getElem?_cons_zero,List.getElem?_cons_succ,Option.some.injEq,DataW.lit.injEq,Lit.int.injEq,true_and] at a0 a1
 subst a0;subst a1
 simp only [List.getElem?_take,List.getElem?_drop] at b0 b1
 have r0:((x.1:Nat):Int) < 18446744073709551616:=by
  simp only [Lit.wf,Bool.and_eq_true,decide_eq_true_eq] at w0
  have hmx:IntKind.u64.max=18446744073709551615:=by decide
  omega
 have r1:((x.2:Nat):Int) < 18446744073709551616:=by
  simp only [Lit.wf,Bool.and_eq_true,decide_eq_true_eq] at w1
  have hmx:IntKind.u64.max=18446744073709551615:=by decide
  omega
 refine ⟨x.1,x.2,by omega,by omega,?_,?_⟩
 ·rw [World.var?_cell hg hvar (i * 2),←Array.getElem?_toList]
  simpa using b0
 ·rw [World.var?_cell hg hvar (i * 2 + 1),←Array.getElem?_toList]
  simpa using b1
theorem read_normal {x:Nat} (h1:4503599627370496≤x) (h2:x < 9218868437227405312):∃ s m j,FloatKind.f64.format.read x=.number s m j∧m≠0:=by
 have e1:FloatKind.f64.format=Ieee.double:=rfl
 have e2:Ieee.double.signWeight=9223372036854775808:=by decide
 have e3:Ieee.double.infRung=9218868437227405312:=by decide
 have e4:Ieee.double.binade=4503599627370496:=by decide
 have hm:x % 9223372036854775808=x:=Nat.mod_eq_of_lt (by omega)
 rw [e1]
 unfold Ieee.Format.read
 simp only [e2,e3,e4,hm]
 rw [if_neg (by omega),if_pos h2]
 exact ⟨_,_,_,rfl,by omega⟩
def p64L:List Nat:=[4607182418800017408,4621819117588971520,4636737291354636288,4652007308841189376,4666723172467343360,4681608360884174848,4696837146684686336,4711630319722168320,4726483295884279808,4741671816366391296,4756540486875873280,4771362005757984768,4786511204640096256,4801453603149578240,4816244402031689728,4831355200913801216,4846369599423283200,4861130398305394688,4876203697187506176,4891288408196988160,4906019910204099648,4921056587992461136,4936209963552724370]
theorem p64L_ok:(p64L.all fun x=>decide (4503599627370496≤x) && decide (x < 9218868437227405312))=true:=by decide
theorem p64_of {W:World} (h:VarReads Tryz.prog W "internal/strconv.float64pow10" Rows.laid_internal_strconv_float64pow10):∃ fb fo fc,W.cell? ⟨20,0,none⟩=some (.slice (some ⟨fb,fo,none⟩) 23 fc)∧∀ i:Nat,i < 23→∃ x:Nat,W.cell? ⟨fb,fo + i,none⟩=some (.float .f64 x)∧4503599627370496≤x∧x < 9218868437227405312:=by
 have e:(Rows.laid_internal_strconv_float64pow10:DataW Unit)=.slice (p64L.map fun x=>.lit (.float .f64 x)) []:=by kernel_rfl
 rw [e] at h
 obtain ⟨R,o,cap,h1,h2⟩:=slice_of_reads (g:=20) (t:=275) (e:=22) (sz:=1) (by kernel_rfl) (by kernel_rfl) Tryz.underlying275 (by kernel_rfl) (by omega) (by simp [p64L]) h
 refine ⟨R,o,cap,by simpa [p64L] using h1,fun i hi=>?_⟩
 have hl:p64L.length=23:=by decide
 obtain ⟨x,hx⟩:∃ x,p64L[i]?=some x:=⟨_,List.getElem?_eq_getElem (by omega)⟩
 obtain ⟨n,cs,q,h3,h4,h5⟩:=h2 i (.lit (.float .f64 x)) (by simp [hx])
 obtain ⟨z,rfl,hz⟩:=trod_float Tryz.underlying22 h3
 simp only [DataW.lit.injEq,Lit.float.injEq,true_and] at hz
 subst hz
 have h6:=h5 0 (by omega)
 have h7:=List.all_eq_true.1 p64L_ok x (List.mem_of_getElem? hx)
 simp only [Bool.and_eq_true,decide_eq_true_eq] at h7
 exact ⟨x,by simpa using h6,h7.1,h7.2⟩
theorem cheats_ok:((List.range 60).all fun k=>Go.Pinned.cheatRows[k + 1]? == some (lcD (k + 1),digF 60 (5 ^ (k + 1))))=true:=by kernel_rfl
theorem cheats_of {W:World} (h:VarReads Tryz.prog W "internal/strconv.leftcheats" Go.Pinned.leftcheats):∀ k,1≤k→k≤60→LcAt W k:=by
 obtain ⟨R,o,cap,h1,h2⟩:=slice_of_reads (g:=22) (t:=288) (e:=287) (sz:=2) (by kernel_rfl) (by kernel_rfl) Tryz.underlying288 (by kernel_rfl) (by omega) (by simp [Go.Pinned.cheatRows]) h
 intro k hk1 hk2
 have hl:Go.Pinned.cheatRows.length=61:=by kernel_rfl
 rw [List.length_map,hl] at h1
 have hk:=List.all_eq_true.1 cheats_ok (k - 1) (List.mem_range.2 (by omega))
 rw [show k - 1 + 1=k by omega] at hk
 have hk:=eq_of_beq hk
 obtain ⟨n,cs,q,h3,h4,h5⟩:=h2 k _ (by rw [List.getElem?_map,hk];rfl)
 have hs:=struct_cells (t:=287) (by exact Tryz.underlying287) (by kernel_rfl) (fun i f hf=>by
  match i,hf with
  | 0,hf=>simp at hf;subst hf;exact ⟨rfl,by kernel_rfl⟩
  | 1,hf=>simp at hf;subst hf;exact ⟨rfl,by kernel_rfl⟩
  | i + 2,hf=>simp at hf) h3
 obtain ⟨n0,d0,q0,c0,a0,b0,t0⟩:=hs 0 _ rfl
 obtain ⟨n1,d1,q1,c1,a1,b1,t1⟩:=hs 1 _ rfl
 obtain ⟨z0,e0,f0,_⟩:=DataW.trod_int (k:=.i64) (by kernel_rfl) t0
 obtain ⟨z1,e1,f1,_⟩:=DataW.trod_string (by kernel_rfl) t1
 simp only [List.cons.injEq,and_true] at e0 e1
 simp only [Prod.mk.injEq] at f0 f1
 obtain ⟨rfl,_⟩:=f0
 obtain ⟨rfl,_⟩:=f1
 subst e0;subst e1
 simp only [List.getElem?_cons_zero,List.getElem?_cons_succ,Option.some.injEq,DataW.lit.injEq,Lit.int.injEq,Lit.string.injEq,true_and] at a0 a1
 subst a0
 refine ⟨R,o,cap,h1,?_,?_⟩
 ·have:=h5 0 (by omega)
  rw [b0] at this
  simpa using this
 ·have:=h5 1 (by omega)
  rw [b1] at this
  rw [this]
  unfold lcS
  rw [a1]
theorem finit_of {W:World} (h1:VarReads Tryz.prog W "internal/strconv.optimize" Rows.laid_internal_strconv_optimize) (h2:VarReads Tryz.prog W "internal/strconv.float64info" Rows.laid_internal_strconv_float64info) (h3:VarReads Tryz.prog W "internal/strconv.powtab" Rows.laid_internal_strconv_powtab) (h4:VarReads Tryz.prog W "internal/strconv.float64pow10" Rows.laid_internal_strconv_float64pow10) (h5:VarReads Tryz.prog W "internal/strconv.leftcheats" Go.Pinned.leftcheats) (h6:VarReads Tryz.prog W "internal/strconv.pow10Tab" Go.Pinned.pow10Tab):FInit3 W:=by
 obtain ⟨i0,i1,i2⟩:=info_of h2
 obtain ⟨fb,fo,fc,f0,f1⟩:=p64_of h4
 refine { opt:=opt_of h1,f0:=i0,f1:=i1,f2:=i2,pt:=powtab_of h3,lc:=cheats_of h5,p10:=pow10_of h6,p64:=⟨fb,fo,fc,f0,fun i hi=>?_⟩,nz:=?_ }
 ·obtain ⟨x,hx,_⟩:=f1 i hi
  exact ⟨x,hx⟩
 ·intro fb' fo' i x hc hi hx
  obtain ⟨fc',hc⟩:=hc
  rw [f0] at hc
  injection hc with hc;injection hc with hc1 hc2 hc3;injection hc1 with hc1;injection hc1 with e1 e2
  subst e1;subst e2
  obtain ⟨y,hy,r1,r2⟩:=f1 i hi
  rw [hx] at hy
  injection hy with hy;injection hy with hy1 hy2
  subst hy2
  exact read_normal r1 r2
theorem laid_suffix {P:Program} {w:World} : ∀ (l1 l2:List (String × DataW Unit)) (ps:List MemPlace),DataW.LaidVars P w (l1 ++ l2) ps→∃ q1 q2,ps=q1 ++ q2∧DataW.LaidVars P w l2 q2
 | [],l2,ps,h=>⟨[],ps,rfl,h⟩
 | (n,d)::l1,l2,ps,h=>by
  obtain ⟨g,t,cs,fuel,p,q,h1,h2,h3,h4,h5,rfl⟩:=h
  obtain ⟨q1,q2,rfl,h6⟩:=laid_suffix l1 l2 q h5
  exact ⟨MemPlace.row ⟨g,0,none⟩ cs.size ++ p ++ q1,q2,by simp,h6⟩
theorem star_errorString : "*" ++ "errors.errorString" = "*errors.errorString" := by decide
theorem row_errorString (u:TypeId) (h:Tryz.prog.typeName? 3 u=some "*errors.errorString"):u=233 :=
 typeName_ptr_named (nm := "errors.errorString") (by rw [star_errorString];kernel_rfl) (by kernel_rfl) (by decide) u (by rw [star_errorString];exact h)
set_option maxRecDepth 100000 in
theorem err_of {W:World} {name:String} {g:Nat} {text:List UInt8} {t:TypeId} {cs:Array Value} {fuel:Nat} {p:List MemPlace} (ht:t=92) (hvar:W.var? Tryz.prog name=some cs) (hg:Tryz.prog.globalNamed name=some g)
  (hd:DataW.trod (fun _=>()) Tryz.prog W 0 (fun _=>true) false fuel t cs.toList=some (.iface "*errors.errorString" (.ptr (.agg [.lit (.string text)])),p)) (hok:∀ u v,W.cell? ⟨g,0,none⟩=some (.iface u v)→Value.okWide Tryz.prog W .any 0 u v) :
  ∃ a s,W.cell? ⟨g,0,none⟩=some (.iface 233 (.pointer (some a)))∧W.cell? a=some (.string s)∧p=MemPlace.row a 1:=by
 subst ht
 obtain ⟨a,s,h1,h2,h3,h4,h5⟩:=errorString_of_trod (P:=Tryz.prog) (ti:=92) (tp:=233) (te:=235) (ts:=9) Tryz.underlying92 (fun u hu=>row_errorString u hu) Tryz.underlying233 (by exact Tryz.underlying235) rfl rfl Tryz.underlying9 (by kernel_rfl) (by kernel_rfl) hd
  (fun u v hc=>hok u v (by rw [World.var?_cell hg hvar 0,←Array.getElem?_toList,hc];rfl))
 exact ⟨a,s,by rw [World.var?_cell hg hvar 0,←Array.getElem?_toList,h1];rfl,h2,h5⟩
theorem cells_size {P:Program} {W:World} {name:String} {g:Nat} {cs:Array Value} {v:Value} (hvar:W.var? P name=some cs) (hg:P.globalNamed name=some g) (h:W.cell? ⟨g,0,none⟩=some v):0 < cs.size:=by
 rw [World.var?_cell hg hvar 0] at h
 exact (Array.getElem?_eq_some_iff.1 h).1
set_option maxRecDepth 100000 in
theorem errs_of {W:World} {l1 l2:List (String × DataW Unit)} (h:laidMet Tryz.prog (l1 ++ ("strconv.ErrRange", Rows.laid_strconv_ErrRange)::("strconv.ErrSyntax", Rows.laid_strconv_ErrSyntax)::l2) W):∃ a b ca cb,ErrAB W a b ca cb:=by
 obtain ⟨ps,hv,hnd,hrow⟩:=h
 obtain ⟨q1,q2,rfl,hv2⟩:=laid_suffix l1 _ ps hv
 obtain ⟨g,t,cs,fuel,p,q,hg,hty,hvar,hd,hv3,rfl⟩:=hv2
 obtain ⟨g',t',cs',fuel',p',q',hg',hty',hvar',hd',_,rfl⟩:=hv3
 obtain rfl:=Option.some.inj ((show Tryz.prog.globalNamed "strconv.ErrRange" = some 3 by kernel_rfl).symm.trans hg)
 obtain rfl:=Option.some.inj ((show Tryz.prog.globalNamed "strconv.ErrSyntax" = some 2 by kernel_rfl).symm.trans hg')
 obtain rfl:=Option.some.inj ((show (Tryz.prog.globals[3]?).map (·.type)=some 92 by kernel_rfl).symm.trans hty)
 obtain rfl:=Option.some.inj ((show (Tryz.prog.globals[2]?).map (·.type)=some 92 by kernel_rfl).symm.trans hty')
 have in1:∀ x∈MemPlace.row ⟨3,0,none⟩ cs.size ++ p ++ (MemPlace.row ⟨2,0,none⟩ cs'.size ++ p' ++ q'),x∈q1 ++ (MemPlace.row ⟨3,0,none⟩ cs.size ++ p ++ (MemPlace.row ⟨2,0,none⟩ cs'.size ++ p' ++ q')):=fun x hx=>List.mem_append_right _ hx
 have ok3:∀ u v,W.cell? ⟨3,0,none⟩=some (.iface u v)→Value.okWide Tryz.prog W .any 0 u v:=fun u v hc=>by
  have hs:=cells_size hvar hg hc
  exact (hrow 3 0 (in1 _ (List.mem_append_left _ (List.mem_append_left _ (MemPlace.mem_row.2 ⟨0,hs,rfl⟩))))).2 u v hc
 have ok2:∀ u v,W.cell? ⟨2,0,none⟩=some (.iface u v)→Value.okWide Tryz.prog W .any 0 u v:=fun u v hc=>by
  have hs:=cells_size hvar' hg' hc
  exact (hrow 2 0 (in1 _ (List.mem_append_right _ (List.mem_append_left _ (List.mem_append_left _ (MemPlace.mem_row.2 ⟨0,hs,rfl⟩)))))).2 u v hc
 obtain ⟨b,s,h1,h2,rfl⟩:=err_of rfl hvar hg hd ok3
 obtain ⟨a,s',h1',h2',rfl⟩:=err_of rfl hvar' hg' hd' ok2
 have mb:MemPlace.cell b.block b.off∈MemPlace.row b 1:=MemPlace.mem_row.2 ⟨0,by omega,rfl⟩
 have ma:MemPlace.cell a.block a.off∈MemPlace.row a 1:=MemPlace.mem_row.2 ⟨0,by omega,rfl⟩
 have hb3:=(hrow b.block b.off (in1 _ (List.mem_append_left _ (List.mem_append_right _ mb)))).1
 have ha3:=(hrow a.block a.off (in1 _ (List.mem_append_right _ (List.mem_append_left _ (List.mem_append_right _ ma))))).1
 obtain ⟨cb,tb,hcb⟩:=hb3
 obtain ⟨ca,ta,hca⟩:=ha3
 refine ⟨a,b,ca,cb,{ syn:=h1',ran:=h1,ne:=?_,ha:=⟨ta,hca⟩,hb:=⟨tb,hcb⟩ }⟩
 intro e
 subst e
 have h1:=(List.nodup_append.1 hnd).2.1
 have h2:=(List.nodup_append.1 h1).2.2
 exact h2 _ (List.mem_append_right _ mb) _ (List.mem_append_left _ (List.mem_append_right _ ma)) rfl
end Go.Proofs.YtfkecmlmnhbmoaaGreatDoor
namespace Go.Proofs.YtfkecmlmnhbmoaaGreatDoor
open Go Go.RowKit
open Go.Maps
theorem lv_kids (x:PV):lvV x=lvVs (kidsV x) + 1:=by cases x<;>simp [lvV,kidsV,lvVs]
theorem sz_kids (x:PV):szV x=szVs (kidsV x) + 1:=by cases x<;>simp [szV,kidsV,szVs]
set_option maxRecDepth 100000 in
set_option maxHeartbeats 40000000 in
theorem levels_any:∀ (n:Nat),n≤1000000→∀ (x:PV) (S:Nat→Prop) (w:World) (ks vs:Value),lvV x≤n→IsV S w x ks vs→(∀ k,S k→k < w.heap.size) →
  Calls Tryz.prog 20 #[valOf x ks vs] w fun e w'=>e=.returned (.int .i64 (lvV x:Nat))∧w.grownBy w' none:=by
 intro n
 induction n with
 | zero=>intro _ x S w ks vs hl;have:=lvV_pos x;omega
 | succ n ih =>
  intro hn x S w ks vs hl hI hS
  replace ih:=ih (by omega)
  have hlk:=lv_kids x
  obtain ⟨ko,kc,vo,vc,rfl,rfl,-,hmx,-,hv⟩:=hI.view
  unfold valOf
  rw [hlk]
  obtain ⟨kids,hk⟩:∃ l,l=kidsV x:=⟨_,rfl⟩
  rw [←hk] at hv hmx hlk ⊢
  obtain ⟨N,hN⟩:∃ N,N=kids.length:=⟨_,rfl⟩
  rw [←hN] at hv hmx ⊢
  generalize pvKind x=k1
  generalize pvInt x=k2
  generalize pvGen x=k3
  generalize pvReal x=k4
  generalize (⟨(pvText x).toArray⟩:ByteArray)=k5
  generalize (keysV x).length=kn
  have hM:N≤9223372036854775807:=by unfold maxLen at hmx;omega
  have hall:∀ p∈kids,lvV p≤n:=fun p hp=>by have:=lvV_mem hp;omega
  have hL:lvVs kids≤1000000:=by omega
  have Hv:=Lib.hid hv
  have HN:=Lib.hid hN
  have HS:=Lib.hid hS
  have Hall:=Lib.hid hall
  have Hih:=Lib.hid ih
  have HL:=Lib.hid hL
  clear hv hN hS hmx hk hI hall ih hlk hl hL hn x
  go_enter Tryz.func20,Tryz.ntmps20
  go_wp2_with fail
  go_loopg [3,9] N (fun g t3 t9 wr=>∃ i,t9=.int .i64 (i:Nat)∧t3=.int .i64 (lvVs (kids.take i):Nat)∧g=N - i∧i≤N∧w.grownBy wr none)
  case atStart=>exact ⟨0,rfl,rfl,rfl,Nat.zero_le _,gr_alloc (World.grownBy.refl w none) _⟩
  case round =>
   obtain ⟨i,rfl,rfl,hg,hi,hgw⟩:=hrel
   have Hgw:=Lib.hid hgw
   have Hg:=Lib.hid hg
   clear hgw hg
   by_cases hiN:i < N
   ·rcases Hv.out with h0 | ⟨b0,i0,rfl,hSb,hcells⟩
    ·omega
    obtain ⟨p,hp⟩:∃ p,kids[i]?=some p:=⟨_,List.getElem?_eq_getElem (by rw [←HN.out];exact hiN)⟩
    obtain ⟨ksi,vsi,hIi,hci⟩:=hcells i p hp
    obtain ⟨⟨kso,ksn,ksc,rfl⟩,⟨vso,vsn,vsc,rfl⟩⟩:=hIi.slices
    have hblk:=Hgw.out.block b0 (HS.out b0 hSb) (by simp)
    have hcce:∀ m u,(c7 p _ _)[m]?=some u→World.cell? wr ⟨b0,i0 + i * 7 + m,none⟩=some u:=fun m u hm=>(World.cell?_of_block hblk).trans (hci m u hm)
    have e0:World.cell? wr ⟨b0,i0 + i * 7,none⟩=_:=hcce 0 _ rfl
    have e1:=hcce 1 _ rfl
    have e2:=hcce 2 _ rfl
    have e3:=hcce 3 _ rfl
    have e4:=hcce 4 _ rfl
    have e5:=hcce 5 _ rfl
    have e6:=hcce 6 _ rfl
    clear hcce
    have htk:=lvVs_take hp
    have hcall:=fun (w2:World) (hg2:wr.grownBy w2 none)=>Hih.out p S w2 _ _ (Hall.out p (List.mem_of_getElem? hp)) (IsV.keep (S':=S) (fun k hk=>⟨hk,(Hgw.out.trans hg2).block k (HS.out k hk) (by simp)⟩) _ _ _ hIi) (fun k hk=>Nat.lt_of_lt_of_le (HS.out k hk) (Hgw.out.trans hg2).size)
    unfold valOf at hcall
    obtain ⟨c,hc⟩:∃ c,c=lvVs (kids.take i):=⟨_,rfl⟩
    obtain ⟨lp,hlp⟩:∃ c,c=lvV p:=⟨_,rfl⟩
    rw [←hc,←hlp] at htk
    rw [←hc]
    rw [←hlp] at hcall
    have hnm:(i:Int) < N:=by omega
    have hwi:IntKind.i64.wrap ((i:Int) + 1)=(i:Int) + 1:=IntWalk.i64_in _ (by omega)
    generalize pvKind p=p1 at *
    generalize pvInt p=p2 at *
    generalize pvGen p=p3 at *
    generalize pvReal p=p4 at *
    generalize (⟨(pvText p).toArray⟩:ByteArray)=p5 at *
    have Hcall:=Lib.hid hcall
    have Htk:=Lib.hid htk
    clear hcall hIi hci hp hcells hblk htk hc hlp
    go_wp2_with fail
    refine (Hcall.out _ (gr_alloc (World.grownBy.refl _ _) _)).mono ?_
    rintro e w2 ⟨rfl,hg2⟩
    have Hg2:=Lib.hid (Hgw.out.trans ((gr_alloc (World.grownBy.refl _ _) _).trans hg2))
    clear hg2
    go_wp2_with fail
    go_roundg (N - (i + 1))
    case measure=>rw [Hg.out];omega
    case rel=>exact ⟨i + 1,by simp,by rw [Htk.out];simp;omega,rfl,by omega,Hg2.out⟩
   ·obtain rfl:i=N:=by omega
    have hL:=HL.out
    have htk:kids.take i=kids:=List.take_of_length_le (by have:=HN.out;omega)
    rw [htk]
    have hwl:IntKind.i64.wrap ((lvVs kids:Int) + 1)=(lvVs kids:Int) + 1:=IntWalk.i64_in _ (by omega)
    go_wp2_with fail
    go_ret
    exact ⟨rfl,Hgw.out⟩
def NdPost (x:PV) (most:Int) (e:Ending):Prop:=∃ r:Int,e=.returned (.int .i64 r)∧1≤r∧(r≤1∨r≤most + 1)∧(r≤most→r=szV x)
set_option maxRecDepth 100000 in
set_option maxHeartbeats 40000000 in
theorem nodes_any:∀ (n:Nat),∀ (x:PV) (S:Nat→Prop) (w:World) (ks vs:Value) (most:Int),lvV x≤n→-1000000≤most→most≤1000000→IsV S w x ks vs→(∀ k,S k→k < w.heap.size) →
  Calls Tryz.prog 19 #[valOf x ks vs,.int .i64 most] w fun e w'=>NdPost x most e∧w.grownBy w' none:=by
 intro n
 induction n with
 | zero=>intro x S w ks vs most hl;have:=lvV_pos x;omega
 | succ n ih =>
  intro x S w ks vs most hl hm0 hm1 hI hS
  have hlk:=lv_kids x
  have hsk:=sz_kids x
  obtain ⟨ko,kc,vo,vc,rfl,rfl,-,hmx,-,hv⟩:=hI.view
  unfold valOf NdPost
  rw [hsk]
  obtain ⟨kids,hk⟩:∃ l,l=kidsV x:=⟨_,rfl⟩
  rw [←hk] at hv hmx hlk ⊢
  obtain ⟨N,hN⟩:∃ N,N=kids.length:=⟨_,rfl⟩
  rw [←hN] at hv hmx ⊢
  generalize pvKind x=k1
  generalize pvInt x=k2
  generalize pvGen x=k3
  generalize pvReal x=k4
  generalize (⟨(pvText x).toArray⟩:ByteArray)=k5
  generalize (keysV x).length=kn
  have hM:N≤9223372036854775807:=by unfold maxLen at hmx;omega
  have hall:∀ p∈kids,lvV p≤n:=fun p hp=>by have:=lvV_mem hp;omega
  have Hv:=Lib.hid hv
  have HN:=Lib.hid hN
  have HS:=Lib.hid hS
  have Hall:=Lib.hid hall
  have Hih:=Lib.hid ih
  clear hv hN hS hmx hk hI hall ih hlk hl hsk x
  have hbox:=heap_alloc_new w (.cells #[.int .i64 k1,.int .i64 k2,.int .i64 k3,.float .f64 k4,.string k5,.slice ko kn kc,.slice vo N vc] 30)
  have hg0:w.grownBy (w.alloc (.cells #[.int .i64 k1,.int .i64 k2,.int .i64 k3,.float .f64 k4,.string k5,.slice ko kn kc,.slice vo N vc] 30)) none:=gr_alloc (World.grownBy.refl w none) _
  obtain ⟨W,hW⟩:∃ W,W=w.alloc (.cells #[.int .i64 k1,.int .i64 k2,.int .i64 k3,.float .f64 k4,.string k5,.slice ko kn kc,.slice vo N vc] 30):=⟨_,rfl⟩
  rw [←hW] at hbox hg0
  have Hbox:=Lib.hid hbox
  have Hg0:=Lib.hid hg0
  clear hbox hg0
  go_enter Tryz.func19,Tryz.ntmps19
  go_wp2_with fail
  rw [←hW]
  clear hW
  go_loopg [5,6] N (fun g t5 t6 wr=>∃ (i:Nat) (c:Int),t6=.int .i64 (i:Nat)∧t5=.int .i64 c∧g=N - i∧i≤N∧1≤c∧(c≤1∨c≤most + 1)∧(c≤most→c=1 + szVs (kids.take i))∧W.grownBy wr none)
  case atStart=>exact ⟨0,1,rfl,rfl,rfl,Nat.zero_le _,by omega,.inl (by omega),fun _=>by simp [szVs],World.grownBy.refl _ _⟩
  case round =>
   obtain ⟨i,c,rfl,rfl,hg,hi,hc1,hc2,hc3,hgw⟩:=hrel
   have q0:=(hgw.block _ (Array.getElem?_eq_some_iff.1 Hbox.out).1 (by simp)).trans Hbox.out
   obtain ⟨x0,x1,x2,x3,x4,x5,x6,xf⟩:=cells7 q0
   have Hgw:=Lib.hid (Hg0.out.trans hgw)
   have HgW:=Lib.hid hgw
   have Hg:=Lib.hid hg
   have Hc3:=Lib.hid hc3
   have Hc2:=Lib.hid hc2
   clear hgw hg q0 hc3
   by_cases hiN:i < N
   ·have hnm:(i:Int) < N:=by omega
    by_cases hcm:c≤most
    ·rcases Hv.out with h0 | ⟨b0,i0,rfl,hSb,hcells⟩
     ·omega
     obtain ⟨p,hp⟩:∃ p,kids[i]?=some p:=⟨_,List.getElem?_eq_getElem (by rw [←HN.out];exact hiN)⟩
     obtain ⟨ksi,vsi,hIi,hci⟩:=hcells i p hp
     obtain ⟨⟨kso,ksn,ksc,rfl⟩,⟨vso,vsn,vsc,rfl⟩⟩:=hIi.slices
     have hblk:=Hgw.out.block b0 (HS.out b0 hSb) (by simp)
     have hcce:∀ m u,(c7 p _ _)[m]?=some u→World.cell? wr ⟨b0,i0 + i * 7 + m,none⟩=some u:=fun m u hm=>(World.cell?_of_block hblk).trans (hci m u hm)
     have e0:World.cell? wr ⟨b0,i0 + i * 7,none⟩=_:=hcce 0 _ rfl
     have e1:=hcce 1 _ rfl
     have e2:=hcce 2 _ rfl
     have e3:=hcce 3 _ rfl
     have e4:=hcce 4 _ rfl
     have e5:=hcce 5 _ rfl
     have e6:=hcce 6 _ rfl
     clear hcce
     have htk:=szVs_take hp
     have hcall:=fun (w2:World) (hg2:wr.grownBy w2 none)=>Hih.out p S w2 _ _ (most - c) (Hall.out p (List.mem_of_getElem? hp)) (by omega) (by omega) (IsV.keep (S':=S) (fun k hk=>⟨hk,(Hgw.out.trans hg2).block k (HS.out k hk) (by simp)⟩) _ _ _ hIi) (fun k hk=>Nat.lt_of_lt_of_le (HS.out k hk) (Hgw.out.trans hg2).size)
     unfold valOf NdPost at hcall
     obtain ⟨sp,hsp⟩:∃ c,c=szV p:=⟨_,rfl⟩
     rw [←hsp] at hcall htk
     have hwi:IntKind.i64.wrap ((i:Int) + 1)=(i:Int) + 1:=IntWalk.i64_in _ (by omega)
     have hwm:IntKind.i64.wrap (most - c)=most - c:=IntWalk.i64_in _ (by omega)
     generalize pvKind p=p1 at *
     generalize pvInt p=p2 at *
     generalize pvGen p=p3 at *
     generalize pvReal p=p4 at *
     generalize (⟨(pvText p).toArray⟩:ByteArray)=p5 at *
     have Hcall:=Lib.hid hcall
     have Htk:=Lib.hid htk
     clear hcall hIi hci hp hcells hblk htk hsp hc2
     go_wp2_with fail
     refine (Hcall.out _ (World.grownBy.refl _ _)).mono ?_
     rintro e w2 ⟨⟨r,rfl,hr1,hr2,hr3⟩,hg2⟩
     have Hg2:=Lib.hid (HgW.out.trans hg2)
     have Hr2:=Lib.hid hr2
     have Hr3:=Lib.hid hr3
     have hwr:IntKind.i64.wrap (c + r)=c + r:=IntWalk.i64_in _ (by omega)
     clear hg2 hr2 hr3
     go_wp2_with fail
     go_roundg (N - (i + 1))
     case measure=>rw [Hg.out];omega
     case rel=>exact ⟨i + 1,c + r,by simp,rfl,rfl,by omega,by omega,.inr (by have:=Hr2.out;omega),fun h=>by have:=Hr3.out (by omega);have:=Hc3.out (by omega);have:=Htk.out;omega,Hg2.out⟩
    ·clear hc2
     go_wp2_with fail
     go_ret
     exact ⟨⟨c,rfl,hc1,Hc2.out,fun h=>absurd h (by omega)⟩,Hgw.out⟩
   ·obtain rfl:i=N:=by omega
    clear hc2
    go_wp2_with fail
    go_ret
    refine ⟨⟨c,rfl,hc1,Hc2.out,fun h=>?_⟩,Hgw.out⟩
    have:=Hc3.out h
    rw [List.take_of_length_le (by have:=HN.out;omega)] at this
    omega
def MdPost (Z L:Nat) (e:Ending):Prop:=∃ b:Bool,e=.returned (.bool b)∧(b=true→Z≤5000∧L≤40)
set_option maxRecDepth 100000 in
set_option maxHeartbeats 40000000 in
theorem modest_any (x:PV) (S:Nat→Prop) (w:World) (ks vs:Value) (hl:lvV x≤1000000) (hI:IsV S w x ks vs) (hS:∀ k,S k→k < w.heap.size) :
  Calls Tryz.prog 8 #[valOf x ks vs] w fun e w'=>MdPost (szV x) (lvV x) e∧w.grownBy w' none:=by
 have hnd:=fun (w2:World) (hg2:w.grownBy w2 none)=>nodes_any _ x S w2 ks vs 5000 (Nat.le_refl _) (by omega) (by omega) (IsV.keep (S':=S) (fun k hk=>⟨hk,hg2.block k (hS k hk) (by simp)⟩) _ _ _ hI) (fun k hk=>Nat.lt_of_lt_of_le (hS k hk) hg2.size)
 have hlv:=fun (w2:World) (hg2:w.grownBy w2 none)=>levels_any _ hl x S w2 ks vs (Nat.le_refl _) (IsV.keep (S':=S) (fun k hk=>⟨hk,hg2.block k (hS k hk) (by simp)⟩) _ _ _ hI) (fun k hk=>Nat.lt_of_lt_of_le (hS k hk) hg2.size)
 obtain ⟨⟨ko,kn,kc,rfl⟩,⟨vo,vn,vc,rfl⟩⟩:=hI.slices
 unfold valOf NdPost at *
 obtain ⟨L,hL⟩:∃ L,L=lvV x:=⟨_,rfl⟩
 obtain ⟨Z,hZ⟩:∃ Z,Z=szV x:=⟨_,rfl⟩
 rw [←hL] at hlv ⊢
 rw [←hZ] at hnd ⊢
 generalize pvKind x=k1 at *
 generalize pvInt x=k2 at *
 generalize pvGen x=k3 at *
 generalize pvReal x=k4 at *
 generalize (⟨(pvText x).toArray⟩:ByteArray)=k5 at *
 have Hnd:=Lib.hid hnd
 have Hlv:=Lib.hid hlv
 clear hnd hlv hI hS hl hL hZ
 have hbox:=heap_alloc_new w (.cells #[.int .i64 k1,.int .i64 k2,.int .i64 k3,.float .f64 k4,.string k5,.slice ko kn kc,.slice vo vn vc] 30)
 have hg0:w.grownBy (w.alloc (.cells #[.int .i64 k1,.int .i64 k2,.int .i64 k3,.float .f64 k4,.string k5,.slice ko kn kc,.slice vo vn vc] 30)) none:=gr_alloc (World.grownBy.refl w none) _
 obtain ⟨W,hW⟩:∃ W,W=w.alloc (.cells #[.int .i64 k1,.int .i64 k2,.int .i64 k3,.float .f64 k4,.string k5,.slice ko kn kc,.slice vo vn vc] 30):=⟨_,rfl⟩
 rw [←hW] at hbox hg0
 have Hbox:=Lib.hid hbox
 have Hg0:=Lib.hid hg0
 obtain ⟨x0,x1,x2,x3,x4,x5,x6,xf⟩:=cells7 hbox
 clear hbox hg0
 go_enter Tryz.func8,Tryz.ntmps8
 go_wp2_with fail
 rw [←hW]
 clear hW
 go_wp2_with fail
 refine (Hnd.out _ Hg0.out).mono ?_
 rintro e w2 ⟨⟨r,rfl,hr1,hr2,hr3⟩,hg2⟩
 have q0:=(hg2.block _ (Array.getElem?_eq_some_iff.1 Hbox.out).1 (by simp)).trans Hbox.out
 clear x0 x1 x2 x3 x4 x5 x6 xf
 obtain ⟨x0,x1,x2,x3,x4,x5,x6,xf⟩:=cells7 q0
 have HG2:=Lib.hid (Hg0.out.trans hg2)
 have Hr3:=Lib.hid hr3
 clear hg2 q0 hr2 hr3
 by_cases h5:r≤5000
 ·go_wp2_with fail
  refine (Hlv.out _ HG2.out).mono ?_
  rintro e w3 ⟨rfl,hg3⟩
  have HG3:=Lib.hid (HG2.out.trans hg3)
  clear hg3
  by_cases h40:(L:Int)≤40
  ·go_wp2_with fail
   go_ret
   exact ⟨⟨true,rfl,fun _=>by have:=Hr3.out h5;omega⟩,HG3.out⟩
  ·go_wp2_with fail
   go_ret
   exact ⟨⟨_,rfl,fun h=>absurd (of_decide_eq_true h) (by omega)⟩,HG3.out⟩
 ·go_wp2_with fail
  go_ret
  exact ⟨⟨false,rfl,fun h=>absurd h (by simp)⟩,HG2.out⟩
end Go.Proofs.YtfkecmlmnhbmoaaGreatDoor
namespace Go.Proofs.YtfkecmlmnhbmoaaGreatDoor
open Go Go.RowKit
open Go.Lib
section
variable {H:Type} {enc:TypeId × Value→H} {W:World} {sp:Nat→Bool} {hd:Bool}
theorem trod_floatG {P:Program} {k:FloatKind} {t:TypeId} {fuel:Nat} {cs:List Value} {x:DataW H × List MemPlace} (ht:P.underlying t=some (.float k)) (h:DataW.trod enc P W 0 sp hd fuel t cs=some x):∃ n,cs=[.float k n]∧x.1=.lit (.float k n)∧(Lit.float k n).wf=true:=by
 cases fuel with
 | zero=>simp [DataW.trod] at h
 | succ n =>
  unfold DataW.trod at h
  rw [ht] at h
  split at h<;>simp_all
  all_goals first
   | (obtain ⟨_,h⟩:=h;rw [←h])
   | rw [←h]
theorem struct_cellsG {P:Program} {t:TypeId} {fs:Array Field} {fuel:Nat} {cs:List Value} {x:DataW H × List MemPlace} (ht:P.underlying t=some (.struct fs)) (hct:P.cellsOf t=fs.size) (hf:∀ (i:Nat) (f:Field),fs[i]?=some f→f.offset=i∧P.cellsOf f.type=1)
  (h:DataW.trod enc P W 0 sp hd fuel t cs=some x):∃ (n:Nat) (ds:List (DataW H)),fuel=n + 1∧x.1=.agg ds∧ds.length=fs.size∧cs.length=fs.size∧∀ (i:Nat) (f:Field),fs[i]?=some f→∃ (d:DataW H) (q:List MemPlace) (c:Value),ds[i]?=some d∧cs[i]?=some c∧DataW.trod enc P W 0 sp hd n f.type [c]=some (d,q):=by
 obtain ⟨xs,n,rfl,rfl,hl,hxl,hall⟩:=DataW.trod_struct ht h
 refine ⟨n,xs.map (·.1),rfl,rfl,by simpa using hxl,by rw [hl,hct],fun i f hi=>?_⟩
 obtain ⟨ho,hc⟩:=hf i f hi
 have hlt:=(Array.getElem?_eq_some_iff.1 hi).1
 have h1:=hall i f hi
 obtain ⟨b,hb⟩:∃ b,xs[i]?=some b:=⟨xs[i]'(by omega),List.getElem?_eq_getElem (by omega)⟩
 obtain ⟨c,hcs⟩:∃ c,cs[i]?=some c:=⟨cs[i]'(by omega),List.getElem?_eq_getElem (by omega)⟩
 have htk:(cs.drop i).take 1=[c]:=by
  have e:=List.drop_eq_getElem_cons (l:=cs) (i:=i) (by omega)
  rw [e,(List.getElem?_eq_some_iff.1 hcs).2]
  rfl
 rw [ho,hc,htk,hb] at h1
 exact ⟨b.1,b.2,c,by simp [hb],hcs,h1⟩
theorem slice_cellsG {P:Program} {t e:TypeId} {sz n:Nat} {c:Value} {y:DataW H × List MemPlace} (ht:P.underlying t=some (.slice e)) (hc:P.cellsOf e=sz) (hsz:1≤sz) (h:DataW.trod enc P W 0 sp hd n t [c]=some y) :
  (c=.slice none 0 0∧y.1=.nil)∨∃ (R o len cap m:Nat) (el:List (DataW H × List MemPlace)) (rs:List (DataW H)) (so:Option Addr),n=m + 1∧c=.slice so len cap∧y.1=.slice (el.map (·.1)) rs∧len≤cap∧cap≤maxLen∧el.length=len∧(0 < len→so=some ⟨R,o,none⟩) ∧
   ∀ (i:Nat) d,el[i]?=some d→∃ cs,DataW.trod enc P W 0 sp hd m e cs=some d∧cs.length=sz∧∀ j,j < sz→W.cell? ⟨R,o + i * sz + j,none⟩=cs[j]?:=by
 rcases DataW.trod_slice ht h with ⟨hc0,hx⟩ | ⟨a,len,cap,el,rs,m,rfl,hcs,hx,_,hlc,hcm,hel,helem,hsp,_⟩
 ·left
  simp at hc0
  exact ⟨hc0,by rw [hx]⟩
 right
 simp only [List.cons.injEq,and_true] at hcs
 obtain ⟨R,o,sR⟩:=a
 have hel2:∀ (i:Nat) d,el[i]?=some d→∃ cs,DataW.trod enc P W 0 sp hd m e cs=some d∧cs.length=sz∧∀ j,j < sz→W.cell? ((⟨R,o,sR⟩:Addr).add (i * sz + j))=cs[j]?:=by
  intro i d hi
  have hlt:=(List.getElem?_eq_some_iff.1 hi).1
  have h1:=helem i (by omega)
  rw [hc,hi] at h1
  obtain ⟨ce,hce,hte⟩:=Option.bind_eq_some_iff.1 h1
  obtain ⟨_,hcl,hcc⟩:=World.cells?_some hce
  refine ⟨ce,hte,hcl,fun j hj=>?_⟩
  have:=hcc j hj
  rw [addr_add2] at this
  exact this
 have hsR:0 < len→sR=none:=by
  intro hl
  obtain ⟨d0,hd0⟩:∃ d,el[0]?=some d:=⟨_,List.getElem?_eq_getElem (by omega)⟩
  obtain ⟨cs0,_,hl0,h00⟩:=hel2 0 d0 hd0
  have h00:=h00 0 (by omega)
  obtain ⟨c0,hc0⟩:∃ c,cs0[0]?=some c:=⟨_,List.getElem?_eq_getElem (by omega)⟩
  rw [hc0,show (Addr.add ⟨R,o,sR⟩ (0 * sz + 0))=⟨R,o,sR⟩ by simp [Addr.add]] at h00
  exact Go.Proofs.cell_spot h00
 refine ⟨R,o,len,cap,m,el,rs.map (·.1),some ⟨R,o,sR⟩,rfl,hcs,by rw [hx],hlc,hcm,hel,fun hl=>by rw [hsR hl],fun i d hi=>?_⟩
 obtain ⟨cs,h1,h2,h3⟩:=hel2 i d hi
 refine ⟨cs,h1,h2,fun j hj=>?_⟩
 have:=h3 j hj
 have hlt:=(List.getElem?_eq_some_iff.1 hi).1
 rw [hsR (by omega)] at this
 rwa [Addr.add_lit,←Nat.add_assoc] at this
end
def LtS (W:World):Nat→Prop:=fun k=>k < W.heap.size
theorem keys_of {H:Type} {enc:TypeId × Value→H} {W:World} {sp:Nat→Bool} {hd:Bool} {n:Nat} {c:Value} {y:DataW H × List MemPlace} (h:DataW.trod enc Tryz.prog W 0 sp hd n 23 [c]=some y) :
  ∃ keys:List By,SlAt (LtS W) W c 1 keys.length (kvals keys)∧(keys.map fun k=>k.length + 1).sum + 1≤Rows.uptoBulk y.1:=by
 rcases slice_cellsG Tryz.underlying23 (sz:=1) (by kernel_rfl) (by omega) h with ⟨rfl,hy⟩ | ⟨R,o,len,cap,m,el,rs,so,rfl,rfl,hy,h1,h2,h3,h4,h5⟩
 ·exact ⟨[],SlAt.nil _ _ _,by rw [hy];simp [Rows.uptoBulk]⟩
 ·have hb : ∀ (L : List (DataW H × List MemPlace)) (off : Nat), (∀ (i : Nat) d, L[i]? = some d → ∃ cs, DataW.trod enc Tryz.prog W 0 sp hd m 9 cs = some d ∧ cs.length = 1 ∧ ∀ j, j < 1 → W.cell? ⟨R, off + i * 1 + j, none⟩ = cs[j]?) →
    ∃ keys:List By,keys.length=L.length∧(keys.map fun k=>k.length + 1).sum≤Rows.uptoBulkAll (L.map (·.1))∧∀ (j:Nat) u,(kvals keys)[j]?=some u→W.cell? ⟨R,off + j,none⟩=some u:=by
   intro L
   induction L with
   | nil=>intro off _;exact ⟨[],rfl,by simp,fun j u hj=>by simp [kvals] at hj⟩
   | cons d L ih =>
    intro off hL
    obtain ⟨keys,k1,k2,k3⟩:=ih (off + 1) (fun i d hi=>by
     obtain ⟨cs,c1,c2,c3⟩:=hL (i + 1) d (by simpa using hi)
     exact ⟨cs,c1,c2,fun j hj=>by have:=c3 j hj;rw [show off + (i + 1) * 1 + j=off + 1 + i * 1 + j by omega] at this;exact this⟩)
    obtain ⟨cs,c1,c2,c3⟩:=hL 0 d rfl
    obtain ⟨s,rfl,hs,_⟩:=DataW.trod_string Tryz.underlying9 c1
    refine ⟨s.data.toList::keys,by simp [k1],?_,fun j u hj=>?_⟩
    ·simp only [List.map_cons,List.sum_cons,Rows.uptoBulkAll,hs,Rows.uptoBulk];omega
    ·cases j with
     | zero =>
      have:=c3 0 (by omega)
      simp [kvals] at hj
      subst hj
      simpa using this
     | succ j =>
      have:=k3 j u (by simpa [kvals] using hj)
      rw [show off + 1 + j=off + (j + 1) by omega] at this
      exact this
  obtain ⟨keys,k1,k2,k3⟩:=hb el o h5
  refine ⟨keys,⟨by simp [kvals],so,cap,by rw [k1,h3],by omega,h2,?_⟩,by rw [hy];simp only [Rows.uptoBulk];omega⟩
  rcases Nat.eq_zero_or_pos keys.length with hz | hz
  ·exact .inl hz
  ·refine .inr ⟨R,o,h4 (by omega),?_,k3⟩
   obtain ⟨k,hk⟩:∃ k,keys[0]?=some k:=⟨_,List.getElem?_eq_getElem hz⟩
   exact World.block_lt_of_cell? _ _ (k3 0 _ (by simp [kvals,hk];rfl))
end Go.Proofs.YtfkecmlmnhbmoaaGreatDoor
namespace Go.Proofs.YtfkecmlmnhbmoaaGreatDoor
open Go Go.RowKit
open Go.Maps
set_option maxRecDepth 100000 in
set_option maxHeartbeats 40000000 in
theorem ob_arr (ps:List PO) (kids:List OB) (hlen:ps.length=kids.length) (hl2:kids.length≤20000) (hP:∀ (i:Nat) p o,ps[i]?=some p→kids[i]?=some o→ObC p o) (i g:Int) (r:Nat) (z:ByteArray) (ko vo:Option Addr) (kn kc vc:Nat) (S:Nat→Prop) (w:World) (hV:KidAt S w vo kids) (hvc:kids.length≤vc) (hS:∀ k,S k→k < w.heap.size) :
  Calls Tryz.prog 21 #[.agg #[.int .i64 7,.int .i64 i,.int .i64 g,.float .f64 r,.string z,.slice ko kn kc,.slice vo kids.length vc]] w fun e w'=>ObPost (.arr ps) w w' e:=by
 have hcall:=fun (w1:World) (hg:w.grownBy w1 none)=>objs_any ps kids hlen hl2 hP vo vc S w1 (hV.keep (fun k hk=>⟨hk,hg.block k (hS k hk) (by simp)⟩)) hvc (fun k hk=>Nat.lt_of_lt_of_le (hS k hk) hg.size)
 have Hcall:=Lib.hid hcall
 have Hl:=Lib.hid (show ps.length≤1000000 by omega)
 clear hcall hP hV hS
 obtain ⟨vn,hvn⟩:∃ n,n=kids.length:=⟨_,rfl⟩
 rw [←hvn] at Hcall ⊢
 clear hvn hlen hl2 hvc
 have Hg0:=Lib.hid (gr_alloc (World.grownBy.refl w none) (.cells #[.int .i64 7,.int .i64 i,.int .i64 g,.float .f64 r,.string z,.slice ko kn kc,.slice vo vn vc] 26))
 go_enter Tryz.func21,Tryz.ntmps21
 go_wp2_with fail
 refine (Hcall.out _ Hg0.out).mono ?_
 rintro e w2 ⟨sl,cells,S',rfl,hsl,hO,hbd,hg2⟩
 have H2:=Lib.hid (And.intro hsl (And.intro hO (And.intro hbd hg2)))
 have Hgs:=Lib.hid hg2.size
 clear hsl hO hbd hg2
 go_wp2_with fail
 go_ret2
 obtain ⟨hsl,hO,hbd,hg2⟩:=H2.out
 refine ⟨_,S',rfl,?_,fun k hk=>?_,Hg0.out.trans hg2⟩
 ·simp only [ObjO]
  exact ⟨Hl.out,sl,cells,rfl,hsl,hO⟩
 ·have:=hbd k hk
  simp at this
  omega
set_option maxRecDepth 100000 in
set_option maxHeartbeats 40000000 in
theorem ob_dict (keys:List By) (ps:List PO) (kids:List OB) (hkv:keys.length=kids.length) (hnd:keys.Nodup) (hkk:∀ k∈keys,k.length≤1000000) (hlen:ps.length=kids.length) (hl2:kids.length≤20000) (hP:∀ (i:Nat) p o,ps[i]?=some p→kids[i]?=some o→ObC p o) (i g:Int) (r:Nat) (z:ByteArray) (ko vo:Option Addr) (kc vc:Nat) (S:Nat→Prop) (w:World) (hK:KeyAt S w ko keys) (hV:KidAt S w vo kids) (hkc:keys.length≤kc) (hvc:kids.length≤vc) (hS:∀ k,S k→k < w.heap.size) :
  Calls Tryz.prog 21 #[.agg #[.int .i64 8,.int .i64 i,.int .i64 g,.float .f64 r,.string z,.slice ko keys.length kc,.slice vo kids.length vc]] w fun e w'=>ObPost (.dict keys ps) w w' e:=by
 have hcall:=fun (w1:World) (hg:w.grownBy w1 none)=>dict_obj keys ps kids hkv hnd hkk hlen hl2 hP ko vo kc vc S w1 (hK.keep (fun k hk=>⟨hk,hg.block k (hS k hk) (by simp)⟩)) (hV.keep (fun k hk=>⟨hk,hg.block k (hS k hk) (by simp)⟩)) hkc hvc (fun k hk=>Nat.lt_of_lt_of_le (hS k hk) hg.size)
 have Hcall:=Lib.hid hcall
 have Hk:=Lib.hid (show KeysOk keys from ⟨by omega,hkk⟩)
 clear hcall hP hV hS hK hkk hnd
 obtain ⟨vn,hvn⟩:∃ n,n=kids.length:=⟨_,rfl⟩
 obtain ⟨kn,hkn⟩:∃ n,n=keys.length:=⟨_,rfl⟩
 rw [←hvn,←hkn] at Hcall ⊢
 clear hvn hlen hl2 hvc hkc hkn hkv
 have Hg0:=Lib.hid (gr_alloc (World.grownBy.refl w none) (.cells #[.int .i64 8,.int .i64 i,.int .i64 g,.float .f64 r,.string z,.slice ko kn kc,.slice vo vn vc] 26))
 go_enter Tryz.func21,Tryz.ntmps21
 go_wp2_with fail
 refine (Hcall.out _ Hg0.out).mono ?_
 rintro e w2 ⟨cells,S',rfl,hD,hO,hbd,hg2⟩
 have H2:=Lib.hid (And.intro hD (And.intro hO (And.intro hbd hg2)))
 clear hD hO hbd hg2
 go_wp2_with fail
 go_ret2
 obtain ⟨hD,hO,hbd,hg2⟩:=H2.out
 rw [show ∀ o,(w.alloc o).heap.size=w.heap.size + 1 from fun o=>by simp] at hD
 have hdl:=hD.lt
 refine ⟨_,fun k=>S' k∨k=w.heap.size + 1,rfl,?_,fun k hk=>?_,Hg0.out.trans hg2⟩
 ·simp only [ObjO]
  refine ⟨Hk.out,_,cells,rfl,.inr (by simp),hD,ObjOs.keep (fun k hk=>⟨.inl hk,rfl⟩) _ _ hO⟩
 ·rcases hk with hk | hk
  ·have:=hbd k hk
   simp at this
   omega
  ·omega
theorem ob_leaf {p:PO} {w w':World} {v:Value} {e:Ending} (h:ObL w w' v e) (hO:∀ S,ObjO S w' p v):ObPost p w w' e:=⟨v,fun _=>False,h.1,hO _,fun k hk=>hk.elim,h.2⟩
theorem okRs_get {ff:Nat→By} {R:Nat→Prop} : ∀ {ps:List PO},okRs ff R ps→∀ (i:Nat) p,ps[i]?=some p→okR ff R p
 | [],_,i,p,h=>by simp at h
 | q::ps,hs,i,p,h=>by
  simp only [okRs] at hs
  cases i with
  | zero=>simp at h;subst h;exact hs.1
  | succ i=>exact okRs_get hs.2 i p (by simpa using h)
theorem ob_all (ff:Nat→By) (R:Nat→Prop):∀ (n:Nat) (p:PO) (o:OB),lvB o≤n→Img p o→okR ff R p→fwB o≤20000→ObC p o:=by
 intro n
 induction n with
 | zero=>intro p o hl;cases o;simp only [lvB] at hl;omega
 | succ n ih =>
  intro p o hlv himg hok hfw S w ks vs hI hS
  obtain ⟨ko,kc,vo,vc,rfl,rfl,hm1,hm2,hm3,hm4,hK,hV⟩:=hI.view
  have htl:=fw_text hfw
  have hvl:=fw_kids hfw
  have hkk:∀ k∈o.keys,k.length≤1000000:=fun k hk=>by have:=fw_key hfw hk;omega
  have hkid:∀ q∈o.kids,lvB q≤n∧fwB q≤20000:=fun q hq=>⟨by have:=lv_kid hq;omega,by have:=fw_kid hq;omega⟩
  obtain ⟨k,i,g,r,t,keys,kids⟩:=o
  simp only [OB.keys,OB.kids,OB.t] at *
  unfold obV
  simp only [OB.k,OB.i,OB.g,OB.r,OB.t,OB.keys,OB.kids]
  have ht:t.length≤319999:=by omega
  cases p with
  | null =>
   simp only [Img,OB.k] at himg
   subst himg
   exact (ob_null i g r (bs t) ko vo _ kc _ vc w).mono fun e w' h=>ob_leaf h (fun S=>by simp only [ObjO])
  | bool b =>
   simp only [Img,OB.k,OB.i] at himg
   obtain ⟨rfl,rfl⟩:=himg
   cases b
   ·exact (ob_bfalse g r (bs t) ko vo _ kc _ vc w).mono fun e w' h=>ob_leaf h (fun S=>by simp only [ObjO])
   ·exact (ob_btrue g r (bs t) ko vo _ kc _ vc w).mono fun e w' h=>ob_leaf h (fun S=>by simp only [ObjO])
  | int m =>
   simp only [Img,OB.k,OB.i] at himg
   obtain ⟨rfl,rfl⟩:=himg
   exact (ob_int i g r (bs t) ko vo _ kc _ vc w).mono fun e w' h=>ob_leaf h (fun S=>by simp only [ObjO])
  | real x =>
   simp only [Img,OB.k,OB.r] at himg
   obtain ⟨rfl,rfl⟩:=himg
   exact (ob_real i g r (bs t) ko vo _ kc _ vc w).mono fun e w' h=>ob_leaf h (fun S=>by simp only [ObjO])
  | lit s =>
   simp only [Img,OB.k,OB.t] at himg
   obtain ⟨rfl,rfl⟩:=himg
   exact (ob_lit i g r (bs t) ko vo _ kc _ vc w).mono fun e w' h=>ob_leaf h (fun S=>by simp only [ObjO];exact ⟨ht,trivial⟩)
  | hexl s =>
   simp only [Img,OB.k,OB.t] at himg
   obtain ⟨rfl,rfl⟩:=himg
   exact (ob_hexl i g r (bs t) ko vo _ kc _ vc w).mono fun e w' h=>ob_leaf h (fun S=>by simp only [ObjO];exact ⟨ht,trivial⟩)
  | name s =>
   simp only [Img,OB.k,OB.t] at himg
   obtain ⟨rfl,rfl⟩:=himg
   exact (ob_name i g r (bs t) ko vo _ kc _ vc w).mono fun e w' h=>ob_leaf h (fun S=>by simp only [ObjO];exact ⟨ht,trivial⟩)
  | ref m q =>
   simp only [Img,OB.k,OB.i,OB.g] at himg
   obtain ⟨rfl,rfl,rfl⟩:=himg
   exact (ob_ref i g r (bs t) ko vo _ kc _ vc w).mono fun e w' h=>ob_leaf h (fun S=>by simp only [ObjO])
  | arr ps =>
   simp only [Img,OB.k,OB.kids] at himg
   obtain ⟨rfl,himg⟩:=himg
   simp only [okR] at hok
   refine ob_arr ps kids (Imgs.len himg) (by omega) (fun j p o hp ho=>?_) i g r (bs t) ko vo _ kc vc S w hV hm4 hS
   obtain ⟨p',hp',hi'⟩:=Imgs.get himg j o ho
   rw [hp] at hp';injection hp' with hp';subst hp'
   have hm:=hkid o (List.mem_of_getElem? ho)
   exact ih p o hm.1 hi' (okRs_get hok j p hp) hm.2
  | dict pkeys ps =>
   simp only [Img,OB.k,OB.kids,OB.keys] at himg
   obtain ⟨rfl,rfl,himg⟩:=himg
   simp only [okR] at hok
   have hpl:=Imgs.len himg
   refine ob_dict keys ps kids (by omega) hok.2.1 hkk hpl (by omega) (fun j p o hp ho=>?_) i g r (bs t) ko vo kc vc S w hK hV hm3 hm4 hS
   obtain ⟨p',hp',hi'⟩:=Imgs.get himg j o ho
   rw [hp] at hp';injection hp' with hp';subst hp'
   have hm:=hkid o (List.mem_of_getElem? ho)
   exact ih p o hm.1 hi' (okRs_get hok.2.2.2 j p hp) hm.2
end Go.Proofs.YtfkecmlmnhbmoaaGreatDoor
namespace Go.Proofs.YtfkecmlmnhbmoaaGreatDoor
open Go Go.RowKit
open Go.Maps
def KdPost (pf:By→Nat) (ff:Nat→By) (S:Nat→Prop) (w w':World) (kids:List OB) (kk:Int) (ksv:Value) (C:Prop) (e:Ending):Prop :=
 ∃ (v:Value) (b:Bool),e=.returned (.tuple #[v,.bool b])∧Shape7 v∧w.grownBy w' none ∧
  (b=true→C∧∃ (ps:List PO) (vs:Value) (S':Nat→Prop),Imgs ps kids∧okSs ff (RR pf ff) ps∧v=.agg #[.int .i64 kk,.int .i64 0,.int .i64 0,.float .f64 0,.string ⟨#[]⟩,ksv,vs] ∧
   (∃ cells,SlAt S' w' vs 7 (valPs ps).length cells∧IsVs S' w' (valPs ps) cells)∧(∀ k,S' k→(S k∨w.heap.size≤k)∧k < w'.heap.size))
set_option maxRecDepth 100000 in
set_option maxHeartbeats 40000000 in
theorem fo_arr (pf:By→Nat) (ff:Nat→By) (W0:World) (kids:List OB) (hP:∀ p∈kids,FoC pf ff W0 p∧bkB p≤1048576∧fwB p≤20000∧wfB p) (hlen:kids.length≤1048576) (i g:Int) (r:Nat) (z:ByteArray) (ko vo:Option Addr) (kn kc vc:Nat)
  (S:Nat→Prop) (w:World) (hV:KidAt S w vo kids) (hvc:kids.length≤vc) (hS:∀ k,S k→k < w.heap.size) (hE:Env W0 w) :
  Calls Tryz.prog 18 #[.agg #[.int .i64 7,.int .i64 i,.int .i64 g,.float .f64 r,.string z,.slice ko kn kc,.slice vo kids.length vc]] w fun e w'=>KdPost pf ff S w w' kids 6 (.slice none 0 0) True e:=by
 have hcall:=fun (w1:World) (hg:w.grownBy w1 none)=>fk_any pf ff W0 kids hP hlen 6 7 i g r z none 0 0 ko vo kn kc vc S w1 (hV.keep (fun k hk=>⟨hk,hg.block k (hS k hk) (by simp)⟩)) hvc (fun k hk=>Nat.lt_of_lt_of_le (hS k hk) hg.size) (hE.grown0 hg)
 have Hcall:=Lib.hid hcall
 have HS:=Lib.hid hS
 clear hcall hP hV hS hE
 obtain ⟨vn,hvn⟩:∃ n,n=kids.length:=⟨_,rfl⟩
 rw [←hvn] at Hcall hvc hlen ⊢
 clear hvn
 obtain ⟨hg0,hb0,hz0⟩:=fr_world w (.cells #[.int .i64 7,.int .i64 i,.int .i64 g,.float .f64 r,.string z,.slice ko kn kc,.slice vo vn vc] 26)
 unfold Z30 at *
 go_enter Tryz.func18,Tryz.ntmps18
 go_wp2_with fail
 refine (only_all _ _ _ _ _ _ _ _ _ _ _ _).mono ?_
 rintro e w1 ⟨⟨b,rfl⟩,hg1⟩
 have hb1:=(hg1.block _ (Array.getElem?_eq_some_iff.1 hb0).1 (by simp)).trans hb0
 have hz1:=(hg1.block _ (Array.getElem?_eq_some_iff.1 hz0).1 (by simp)).trans hz0
 obtain ⟨y0,y1,y2,y3,y4,y5,y6,yf⟩:=cells7 hb1
 obtain ⟨z0,z1,z2,z3,z4,z5,z6,zf⟩:=cells7 hz1
 have HZ:=Lib.hid hz1
 have HBk:=Lib.hid hb1
 have HG:=Lib.hid (hg0.trans hg1)
 clear hg0 hb0 hz0 hg1 hb1 hz1
 cases b
 ·go_wp2_with fail
  refine fr_ret rfl rfl HZ.out ?_
  intro w' _ _ hgr
  first
   | exact ⟨.null,false,rfl,hgr _ _ HG.out (by omega),fun h=>by cases h⟩
   | exact ⟨_,false,rfl,⟨_,_,_,_,_,_,_,_,_,_,_,rfl⟩,hgr _ _ HG.out (by omega),fun h=>by cases h⟩
 ·go_wp2_with fail
  refine (Hcall.out _ HG.out).mono ?_
  rintro e w2 ⟨v,b,rfl,hsh,hg2,hb2⟩
  obtain ⟨sk,sn2,sg,sx,st,so1,sn1,sc1,so2,sn3,sc2,rfl⟩:=hsh
  have Hb2:=Lib.hid hb2
  have hBl:=(Array.getElem?_eq_some_iff.1 HZ.out).1
  clear hb2
  have Hgw:=Lib.hid (show w1.grownBy w2 none from by first | exact hg2 | exact (gr_drew (World.grownBy.refl _ _)).trans hg2 | exact (gr_drewN (World.grownBy.refl _ _) _).trans hg2);have hz2:=(Hgw.out.block _ (Array.getElem?_eq_some_iff.1 HZ.out).1 (by simp)).trans HZ.out;have hbk2:=(Hgw.out.block _ (Array.getElem?_eq_some_iff.1 HBk.out).1 (by simp)).trans HBk.out;have HZ2:=Lib.hid hz2;have HG2:=Lib.hid (HG.out.trans Hgw.out);obtain ⟨x0,x1,x2,x3,x4,x5,x6,xf⟩:=cells7 hz2;obtain ⟨j0,j1,j2,j3,j4,j5,j6,jf⟩:=cells7 hbk2;clear hg2 hz2 hbk2
  clear y0 y1 y2 y3 y4 y5 y6 yf z0 z1 z2 z3 z4 z5 z6 zf
  go_wp2_with fail
  refine fr_ret rfl rfl HZ2.out ?_
  intro w' hk hsz hgr
  refine ⟨_,b,rfl,⟨_,_,_,_,_,_,_,_,_,_,_,rfl⟩,hgr _ _ HG2.out (by omega),fun h=>?_⟩
  obtain ⟨ps,vs,cells,S',himg,hok,hv,hsl,hO,hbd⟩:=Hb2.out h
  have hkp:∀ k,S' k→w'.heap[k]?=w2.heap[k]?:=fun k hk'=>hk k (fun e=>by
   have h1:=hbd k hk'
   rcases h1.1 with h2 | h2
   ·have:=HS.out k h2;omega
   ·omega)
  refine ⟨trivial,ps,vs,S',himg,hok,hv,⟨cells,hsl.keep (fun k hk'=>⟨hk',hkp k hk'⟩),IsVs.keep (fun k hk'=>⟨hk',hkp k hk'⟩) _ _ hO⟩,fun k hk'=>?_⟩
  have h1:=hbd k hk'
  exact ⟨by rcases h1.1 with h2 | h2;exact .inl h2;exact .inr (by omega),by rw [hsz];exact h1.2⟩
end Go.Proofs.YtfkecmlmnhbmoaaGreatDoor
namespace Go.Proofs.YtfkecmlmnhbmoaaGreatDoor
open Go Go.RowKit
open Go.Maps
theorem bl_eq:∀ (x y:List UInt8),Op.bytesLess x y=decide (x < y)
 | [],[]=>by simp [Op.bytesLess]
 | _::_,[]=>by simp [Op.bytesLess]
 | [],_::_=>by simp [Op.bytesLess]
 | a::x,b::y=>by
  rw [Op.bytesLess,bl_eq x y]
  simp only [List.cons_lt_cons_iff]
  by_cases h1:a < b<;>by_cases h2:a=b<;>by_cases h3:x < y<;>simp [h1,h2,h3]
theorem bs_less (a b:By):Op.bytesLess (bs a).toList (bs b).toList=decide (a < b):=by
 rw [ByteArray.toList_eq,ByteArray.toList_eq,bs_list,bs_list,bl_eq]
def KeysUp (keys:List By) (i:Nat):Prop:=(∀ k∈keys.take i,35∉k∧∀ c∈k,(c.toNat:Int)≠0)∧(keys.take i).Pairwise (· < ·)
theorem KeysUp.step {keys:List By} {i:Nat} {k:By} (h:KeysUp keys i) (hk:keys[i]?=some k) (h1:35∉k) (h2:∀ c∈k,(c.toNat:Int)≠0) (h3:∀ p,0 < i→keys[i - 1]?=some p→p < k):KeysUp keys (i + 1):=by
 unfold KeysUp
 rw [List.take_add_one,hk]
 refine ⟨fun q hq=>?_,?_⟩
 ·rcases List.mem_append.1 hq with hq | hq
  ·exact h.1 q hq
  ·simp at hq;subst hq;exact ⟨h1,h2⟩
 ·rw [List.pairwise_append]
  refine ⟨h.2,by simp,fun a ha b hb=>?_⟩
  simp at hb;subst hb
  obtain ⟨j,hj⟩:=List.mem_iff_getElem?.1 ha
  have hji:j < i:=by
   have:=(List.getElem?_eq_some_iff.1 hj).1
   simp at this;omega
  have hkj:keys[j]?=some a:=by rw [List.getElem?_take,if_pos hji] at hj;exact hj
  have hil:i < keys.length:=(List.getElem?_eq_some_iff.1 hk).1
  obtain ⟨p,hp⟩:∃ p,keys[i - 1]?=some p:=⟨_,List.getElem?_eq_getElem (by omega)⟩
  have hpk:=h3 p (by omega) hp
  by_cases e:j=i - 1
  ·subst e
   rw [hp] at hkj;injection hkj with e2;subst e2;exact hpk
  ·have hpt:(keys.take i)[i - 1]?=some p:=by rw [List.getElem?_take,if_pos (by omega)];exact hp
   have hr:=List.pairwise_iff_getElem.1 h.2 j (i - 1) (List.getElem?_eq_some_iff.1 hj).1 (List.getElem?_eq_some_iff.1 hpt).1 (by omega)
   rw [(List.getElem?_eq_some_iff.1 hj).2,(List.getElem?_eq_some_iff.1 hpt).2] at hr
   exact List.lt_trans hr hpk
theorem KeysUp.nodup {keys:List By} (h:keys.Pairwise (· < ·)):keys.Nodup:=by
 refine List.Pairwise.imp (fun {a b} hab e=>?_) h
 subst e
 exact List.lt_irrefl a hab
set_option maxRecDepth 100000 in
set_option maxHeartbeats 40000000 in
theorem fo_dict (pf:By→Nat) (ff:Nat→By) (W0:World) (keys:List By) (kids:List OB) (hP:∀ p∈kids,FoC pf ff W0 p∧bkB p≤1048576∧fwB p≤20000∧wfB p) (hlen:kids.length≤1048576) (hkl:keys.length≤1048576) (hkk:∀ k∈keys,k.length≤1048576) (i0 g:Int) (r:Nat) (z:ByteArray) (ko vo:Option Addr) (kc vc:Nat)
  (S:Nat→Prop) (w:World) (hK:KeyAt S w ko keys) (hV:KidAt S w vo kids) (hkc:keys.length≤kc) (hvc:kids.length≤vc) (hS:∀ k,S k→k < w.heap.size) (hE:Env W0 w) :
  Calls Tryz.prog 18 #[.agg #[.int .i64 8,.int .i64 i0,.int .i64 g,.float .f64 r,.string z,.slice ko keys.length kc,.slice vo kids.length vc]] w fun e w'=>KdPost pf ff S w w' kids 7 (.slice ko keys.length kc) (keys.length=kids.length∧KeysUp keys keys.length) e:=by
 have hcall:=fun (w1:World) (hg:w.grownBy w1 none)=>fk_any pf ff W0 kids hP hlen 7 8 i0 g r z ko keys.length kc ko vo keys.length kc vc S w1 (hV.keep (fun k hk=>⟨hk,hg.block k (hS k hk) (by simp)⟩)) hvc (fun k hk=>Nat.lt_of_lt_of_le (hS k hk) hg.size) (hE.grown0 hg)
 have hK1:=fun (w1:World) (hg:w.grownBy w1 none)=>hK.keep (S':=S) (w':=w1) (fun k hk=>⟨hk,hg.block k (hS k hk) (by simp)⟩)
 have Hcall:=Lib.hid hcall
 have HK1:=Lib.hid hK1
 have HS:=Lib.hid hS
 have Hkk:=Lib.hid hkk
 clear hcall hP hV hS hE hK hK1 hkk
 obtain ⟨vn,hvn⟩:∃ n,n=kids.length:=⟨_,rfl⟩
 obtain ⟨kn,hkn⟩:∃ n,n=keys.length:=⟨_,rfl⟩
 rw [←hvn,←hkn] at Hcall ⊢
 rw [←hvn] at hvc hlen
 rw [←hkn] at hkc hkl
 have Hkn:=Lib.hid hkn
 clear hvn hkn
 by_cases hne:kn=vn
 ·subst hne
  obtain ⟨hg0,hb0,hz0⟩:=fr_world w (.cells #[.int .i64 8,.int .i64 i0,.int .i64 g,.float .f64 r,.string z,.slice ko kn kc,.slice vo kn vc] 26)
  unfold Z30 at *
  go_enter Tryz.func18,Tryz.ntmps18
  go_wp2_with fail
  refine (only_all _ _ _ _ _ _ _ _ _ _ _ _).mono ?_
  rintro e w1 ⟨⟨b,rfl⟩,hg1⟩
  have hb1:=(hg1.block _ (Array.getElem?_eq_some_iff.1 hb0).1 (by simp)).trans hb0
  have hz1:=(hg1.block _ (Array.getElem?_eq_some_iff.1 hz0).1 (by simp)).trans hz0
  obtain ⟨y0,y1,y2,y3,y4,y5,y6,yf⟩:=cells7 hb1
  obtain ⟨z0,z1,z2,z3,z4,z5,z6,zf⟩:=cells7 hz1
  have HZ:=Lib.hid hz1
  have HBk:=Lib.hid hb1
  have HG:=Lib.hid (hg0.trans hg1)
  clear hg0 hb0 hz0 hg1 hb1 hz1
  cases b
  ·go_wp2_with fail
   refine fr_ret rfl rfl HZ.out ?_
   intro w' _ _ hgr
   first
    | exact ⟨.null,false,rfl,hgr _ _ HG.out (by omega),fun h=>by cases h⟩
    | exact ⟨_,false,rfl,⟨_,_,_,_,_,_,_,_,_,_,_,rfl⟩,hgr _ _ HG.out (by omega),fun h=>by cases h⟩
  ·go_wp2_with fail
   go_loopg [128] kn (fun gg t128 wr=>∃ i,t128=.int .i64 (i:Nat)∧i≤kn∧gg=kn - i∧KeysUp keys i∧w1=wr)
   case atStart=>exact ⟨0,rfl,Nat.zero_le _,rfl,⟨by simp,by simp⟩,rfl⟩
   case round =>
    obtain ⟨i,rfl,hi,hgg,hup,rfl⟩:=hrel
    have Hgg:=Lib.hid hgg
    have Hup:=Lib.hid hup
    clear hgg hup
    by_cases hin:i < kn
    ·have hnm:(i:Int) < kn:=by omega
     have hwi:IntKind.i64.wrap ((i:Int) + 1)=(i:Int) + 1:=IntWalk.i64_in _ (by omega)
     obtain ⟨k,hk⟩:∃ k,keys[i]?=some k:=⟨_,List.getElem?_eq_getElem (by rw [←Hkn.out];exact hin)⟩
     have hkl9:=Hkk.out k (List.mem_of_getElem? hk)
     have Hnm:=Lib.hid (nameable_all k hkl9 w1)
     have Hsg:=Lib.hid (signed_any w1 (bs k) k (bs_list k) (by rw [bs_size];omega))
     obtain ⟨b0,j0,hko,hSb,e0⟩:=HK1.out w1 HG.out i k hk
     subst hko
     have hprev:∀ p,0 < i→keys[i - 1]?=some p→w1.cell? ⟨b0,j0 + (i - 1),none⟩=some (.string (bs p)):=fun p h0 hp=>by
      obtain ⟨b1,j1,hko1,_,e1⟩:=HK1.out w1 HG.out (i - 1) p hp
      injection hko1 with hko1
      injection hko1 with h1 h2 h3
      subst h1;subst h2
      exact e1
     have Hk:=Lib.hid hk
     have Hprev:=Lib.hid hprev
     have Hless:=Lib.hid (fun p=>bs_less p k)
     obtain ⟨zk,hzk⟩:∃ z,z=bs k:=⟨_,rfl⟩
     rw [←hzk] at Hnm Hsg e0 Hless
     clear hk hprev hSb hkl9 hzk
     go_wp2_with fail
     refine Hnm.out.mono ?_
     rintro e w3 ⟨b,rfl,hw,hb⟩
     subst w3
     have Hb:=Lib.hid hb
     clear hb
     cases b
     ·go_wp2_with fail
      refine fr_ret rfl rfl HZ.out ?_
      intro w' _ _ hgr
      exact ⟨_,false,rfl,⟨_,_,_,_,_,_,_,_,_,_,_,rfl⟩,hgr _ _ HG.out (by omega),fun h=>by cases h⟩
     ·go_wp2_with fail
      refine Hsg.out.mono ?_
      rintro e w3 ⟨rfl,hw⟩
      subst w3
      by_cases h35:(35:UInt8)∈k
      ·rw [decide_eq_true h35]
       clear h35
       go_wp2_with fail
       refine fr_ret rfl rfl HZ.out ?_
       intro w' _ _ hgr
       exact ⟨_,false,rfl,⟨_,_,_,_,_,_,_,_,_,_,_,rfl⟩,hgr _ _ HG.out (by omega),fun h=>by cases h⟩
      ·have H35:=Lib.hid h35
       rw [decide_eq_false h35]
       clear h35
       by_cases hi0:i=0
       ·subst hi0
        go_wp2_with fail
        go_roundg (kn - (0 + 1))
        case measure=>rw [Hgg.out];omega
        case rel=>exact ⟨0 + 1,by simp,by omega,rfl,Hup.out.step Hk.out H35.out (Hb.out (by trivial)) (fun p h=>absurd h (by omega)),rfl⟩
       ·obtain ⟨j,hj⟩:∃ j:Nat,i - 1=j:=⟨_,rfl⟩
        obtain ⟨p,hp⟩:∃ p,keys[i - 1]?=some p:=⟨_,List.getElem?_eq_getElem (by rw [←Hkn.out];omega)⟩
        have e1:=Hprev.out p (by omega) hp
        rw [hj] at e1
        have hji:(i:Int) - 1=(j:Int):=by omega
        have hip:0 < (i:Int):=by omega
        have hjk:(j:Int) < kn:=by omega
        have hjk2:j < kn:=by omega
        have hls:=Hless.out p
        obtain ⟨zp,hzp⟩:∃ z,z=bs p:=⟨_,rfl⟩
        rw [←hzp] at e1 hls
        have Hp:=Lib.hid hp
        have Hls:=Lib.hid hls
        clear hp hls hzp hj hi0
        rcases Bool.eq_false_or_eq_true (Op.bytesLess zp.toList zk.toList) with hcmp | hcmp
        ·have Hlt:=Lib.hid (show p < k from of_decide_eq_true (Hls.out.symm.trans hcmp))
         go_wp2_with fail
         go_roundg (kn - (i + 1))
         case measure=>rw [Hgg.out];omega
         case rel=>exact ⟨i + 1,by simp,by omega,rfl,Hup.out.step Hk.out H35.out (Hb.out (by trivial)) (fun q _ hq=>by rw [Hp.out] at hq;injection hq with hq;subst hq;exact Hlt.out),rfl⟩
        ·go_wp2_with fail
         refine fr_ret rfl rfl HZ.out ?_
         intro w' _ _ hgr
         exact ⟨_,false,rfl,⟨_,_,_,_,_,_,_,_,_,_,_,rfl⟩,hgr _ _ HG.out (by omega),fun h=>by cases h⟩
    ·obtain rfl:i=kn:=by omega
     have hnm:¬(i:Int) < i:=by omega
     go_wp2_with fail
     refine (Hcall.out _ HG.out).mono ?_
     rintro e w2 ⟨v,b,rfl,hsh,hg2,hb2⟩
     obtain ⟨sk,sn2,sg,sx,st,so1,sn1,sc1,so2,sn3,sc2,rfl⟩:=hsh
     have Hb2:=Lib.hid hb2
     have hBl:=(Array.getElem?_eq_some_iff.1 HZ.out).1
     clear hb2
     have Hgw:=Lib.hid (show w1.grownBy w2 none from by first | exact hg2 | exact (gr_drew (World.grownBy.refl _ _)).trans hg2 | exact (gr_drewN (World.grownBy.refl _ _) _).trans hg2);have hz2:=(Hgw.out.block _ (Array.getElem?_eq_some_iff.1 HZ.out).1 (by simp)).trans HZ.out;have hbk2:=(Hgw.out.block _ (Array.getElem?_eq_some_iff.1 HBk.out).1 (by simp)).trans HBk.out;have HZ2:=Lib.hid hz2;have HG2:=Lib.hid (HG.out.trans Hgw.out);obtain ⟨x0,x1,x2,x3,x4,x5,x6,xf⟩:=cells7 hz2;obtain ⟨j0,j1,j2,j3,j4,j5,j6,jf⟩:=cells7 hbk2;clear hg2 hz2 hbk2
     clear y0 y1 y2 y3 y4 y5 y6 yf z0 z1 z2 z3 z4 z5 z6 zf
     go_wp2_with fail
     refine fr_ret rfl rfl HZ2.out ?_
     intro w' hk hsz hgr
     refine ⟨_,b,rfl,⟨_,_,_,_,_,_,_,_,_,_,_,rfl⟩,hgr _ _ HG2.out (by omega),fun h=>?_⟩
     obtain ⟨ps,vs,cells,S',himg,hok,hv,hsl,hO,hbd⟩:=Hb2.out h
     have hkp:∀ k,S' k→w'.heap[k]?=w2.heap[k]?:=fun k hk'=>hk k (fun e=>by
      have h1:=hbd k hk'
      rcases h1.1 with h2 | h2
      ·have:=HS.out k h2;omega
      ·omega)
     refine ⟨⟨(by trivial),Hup.out⟩,ps,vs,S',himg,hok,hv,⟨cells,hsl.keep (fun k hk'=>⟨hk',hkp k hk'⟩),IsVs.keep (fun k hk'=>⟨hk',hkp k hk'⟩) _ _ hO⟩,fun k hk'=>?_⟩
     have h1:=hbd k hk'
     exact ⟨by rcases h1.1 with h2 | h2;exact .inl h2;exact .inr (by omega),by rw [hsz];exact h1.2⟩
 ·have hneb:((kn:Int) != (vn:Int))=true:=by simp;omega
  obtain ⟨hg0,hb0,hz0⟩:=fr_world w (.cells #[.int .i64 8,.int .i64 i0,.int .i64 g,.float .f64 r,.string z,.slice ko kn kc,.slice vo vn vc] 26)
  unfold Z30 at *
  go_enter Tryz.func18,Tryz.ntmps18
  go_wp2_with fail
  refine (only_all _ _ _ _ _ _ _ _ _ _ _ _).mono ?_
  rintro e w1 ⟨⟨b,rfl⟩,hg1⟩
  have hb1:=(hg1.block _ (Array.getElem?_eq_some_iff.1 hb0).1 (by simp)).trans hb0
  have hz1:=(hg1.block _ (Array.getElem?_eq_some_iff.1 hz0).1 (by simp)).trans hz0
  obtain ⟨y0,y1,y2,y3,y4,y5,y6,yf⟩:=cells7 hb1
  obtain ⟨z0,z1,z2,z3,z4,z5,z6,zf⟩:=cells7 hz1
  have HZ:=Lib.hid hz1
  have HBk:=Lib.hid hb1
  have HG:=Lib.hid (hg0.trans hg1)
  clear hg0 hb0 hz0 hg1 hb1 hz1
  cases b
  ·go_wp2_with fail
   refine fr_ret rfl rfl HZ.out ?_
   intro w' _ _ hgr
   first
    | exact ⟨.null,false,rfl,hgr _ _ HG.out (by omega),fun h=>by cases h⟩
    | exact ⟨_,false,rfl,⟨_,_,_,_,_,_,_,_,_,_,_,rfl⟩,hgr _ _ HG.out (by omega),fun h=>by cases h⟩
  ·go_wp2_with fail
   refine fr_ret rfl rfl HZ.out ?_
   intro w' _ _ hgr
   exact ⟨_,false,rfl,⟨_,_,_,_,_,_,_,_,_,_,_,rfl⟩,hgr _ _ HG.out (by omega),fun h=>by cases h⟩
end Go.Proofs.YtfkecmlmnhbmoaaGreatDoor
