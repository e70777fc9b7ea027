/- FnParse: the texts F21 R1 G28 of the workbench, laid together. -/
import Derived.Test.YtfkecmlmnhbmoaaGreatDoorProg
import Derived.WalkKit
import Derived.WalkLawsBesides
import Derived.WalkSpells
import Derived.BigQuiet
import Derived.BigRegion
import Derived.Deep.QuietTactic
import Derived.Deep.RegionHeld3
import Derived.Deep.LoopGhost
import Derived.StillTailTactics
import Derived.Lib.Hide
import Derived.Laws.EntriesVeiled
import Derived.Lib.LaidPrint
import Derived.PinnedBridge
import Derived.OpenShut
import Derived.Test.YtfkecmlmnhbmoaaGreatDoorRows
import Derived.LaidLaws
import Derived.Test.YtfkecmlmnhbmoaaGreatDoorZ31
import Derived.Test.YtfkecmlmnhbmoaaGreatDoorZ36
import Derived.Test.YtfkecmlmnhbmoaaGreatDoorZ37
set_option linter.unusedVariables false
set_option linter.unusedSimpArgs false
namespace Go.Proofs.YtfkecmlmnhbmoaaGreatDoor
open Go Go.RowKit
theorem numOk_len {l:By} (h:numOk l):l.length≤62:=by
  obtain ⟨pre,c,l1,d,a,rfl,hp,_,hsc,h1,h2,h3⟩:=numOk_parts h
  have:=scan_mono _ _ _ _ _ _ _ hsc
  rw [List.length_append]
  rcases hp with rfl | rfl | rfl<;>simp at this ⊢<;>omega
theorem a64_ex (W0:World) (hF:FInit3 W0) (l:By) (hok:numOk l):∃ x,nnF x∧A64 W0 l ⟨l.toArray⟩ x:=by
  have hl:=numOk_len hok
  have hs2:(⟨l.toArray⟩:ByteArray).size≤1000:=by show l.toArray.size≤1000;simp;omega
  by_cases hM:(rfF (numStrip l) 0 0 0 false).1=0
  · exact a64_zero W0 hF l hok _ rfl hs2 hM
  · cases htr:(rfF (numStrip l) 0 0 0 false).2.2.2
    · exact a64_short W0 hF l hok _ rfl hs2 hM htr
    · exact a64_long W0 hF l hok _ rfl hs2 hM htr
set_option maxRecDepth 100000 in
set_option maxHeartbeats 40000000 in
theorem pf_ex (W0:World) (hF:FInit3 W0) (l:By) (hok:numOk l):∃ x:Nat,nnF x∧∀ w:World,Env W0 w→Calls Tryz.prog 57 #[.string ⟨l.toArray⟩,.int .i64 64] w fun e w'=>e=.returned (.tuple #[.float .f64 x,.nilIface])∧w.grownBy w' none:=by
  obtain ⟨x,hxn,hx⟩:=a64_ex W0 hF l hok
  generalize (⟨l.toArray⟩:ByteArray)=s at hx ⊢
  have hss:((s.size:Int) != (s.size:Int))=false:=by simp
  have H64:=Lib.hid hx
  clear hx
  have y30:∀ (a b c:Value),([a,b,c]:List Value)[0]?=some a:=fun _ _ _=>rfl
  have y31:∀ (a b c:Value),([a,b,c]:List Value)[1]?=some b:=fun _ _ _=>rfl
  have y32:∀ (a b c:Value),([a,b,c]:List Value)[2]?=some c:=fun _ _ _=>rfl
  refine ⟨x,hxn,fun w hE=>?_⟩
  clear hxn
  have h85:Calls Tryz.prog 85 #[.string s,.int .i64 64] w fun e w'=>e=.returned (.tuple #[.float .f64 x,.int .i64 s.size,.nilIface])∧w.grownBy w' none:=by
    go_enter Tryz.func85,Tryz.ntmps85
    go_wp2_with fail
    refine (H64.out w hE).mono ?_
    rintro e w1 ⟨rfl,hg⟩
    have Hg:=Lib.hid hg;clear hg
    go_wp2_with fail
    go_ret3
    exact ⟨rfl,Hg.out⟩
  have H85:=Lib.hid h85
  clear h85
  have h72:Calls Tryz.prog 72 #[.string s,.int .i64 64] w fun e w'=>e=.returned (.tuple #[.float .f64 x,.nilIface])∧w.grownBy w' none:=by
    go_enter Tryz.func72,Tryz.ntmps72
    go_wp2_with fail
    refine H85.out.mono ?_
    rintro e w1 ⟨rfl,hg⟩
    have Hg:=Lib.hid hg;clear hg
    go_wp2_with fail
    go_ret2
    exact ⟨rfl,Hg.out⟩
  have H72:=Lib.hid h72
  clear h72
  go_enter Tryz.func57,Tryz.ntmps57
  go_wp2_with fail
  refine H72.out.mono ?_
  rintro e w1 ⟨rfl,hg⟩
  have Hg:=Lib.hid hg;clear hg
  go_wp2_with fail
  go_ret2
  exact ⟨rfl,Hg.out⟩
open Classical in
theorem PFC_ex (W0:World) (hF:FInit3 W0):∃ pf,PFC pf W0∧∀ l,numOk l→nnF (pf l):=by
  refine ⟨fun l=>if h:numOk l then Classical.choose (pf_ex W0 hF l h) else 0,fun l w hok hE=>?_,fun l hok=>?_⟩
  rotate_left
  · simp only [dif_pos hok]
    exact (Classical.choose_spec (pf_ex W0 hF l hok)).1
  have h:=(Classical.choose_spec (pf_ex W0 hF l hok)).2 w hE
  simp only [dif_pos hok]
  exact h
end Go.Proofs.YtfkecmlmnhbmoaaGreatDoor
namespace Go.Proofs.YtfkecmlmnhbmoaaGreatDoor
open Go Go.RowKit
open Go.Lib
section
variable {P:Program} {w:World}
theorem trod_float {k:FloatKind} {t:TypeId} {fuel:Nat} {cs:List Value} {x:DataW Unit × List MemPlace} (ht:P.underlying t=some (.float k)) (h:DataW.trod (fun _=>()) P w 0 (fun _=>true) false fuel t cs=some x):∃ n,cs=[.float k n]∧x.1=.lit (.float k n):=by
  cases fuel with
  | zero=>simp [DataW.trod] at h
  | succ n =>
    unfold DataW.trod at h
    rw [ht] at h
    split at h<;>simp_all
    all_goals first
      | (obtain ⟨_,h⟩:=h;rw [←h])
      | rw [←h]
theorem addr_add2 (a:Addr) (n m:Nat):(a.add n).add m=a.add (n + m):=by
  unfold Addr.add
  by_cases h1:n=0
  · subst h1;simp
  · by_cases h2:m=0
    · subst h2;simp
    · simp [h1,h2,Nat.add_assoc]
theorem slice_of_reads {name:String} {g:Nat} {t e:TypeId} {sz:Nat} {ds:List (DataW Unit)} (hn:P.globalNamed name=some g) (hy:(P.globals[g]?).map (·.type)=some t) (ht:P.underlying t=some (.slice e)) (hc:P.cellsOf e=sz) (hsz:1≤sz) (hl:0 < ds.length) (h:VarReads P w name (.slice ds [])) :
    ∃ R o cap,w.cell? ⟨g,0,none⟩=some (.slice (some ⟨R,o,none⟩) ds.length cap)∧∀ (i:Nat) d,ds[i]?=some d→∃ (n:Nat) (cs:List Value) (q:List MemPlace),DataW.trod (fun _=>()) P w 0 (fun _=>true) false n e cs=some (d,q)∧cs.length=sz∧∀ j,j < sz→w.cell? ⟨R,o + i * sz + j,none⟩=cs[j]?:=by
  obtain ⟨g',t',cs,fuel,p,hg,hty,hvar,hd⟩:=h
  obtain rfl:=Option.some.inj (hn.symm.trans hg)
  obtain rfl:=Option.some.inj (hy.symm.trans hty)
  rcases DataW.trod_slice ht hd with ⟨_,hx⟩ | ⟨a,len,cap,el,rs,m,rfl,hcs,hx,_,hlc,_,hel,helem,hsp,_⟩
  · cases hx
  have e0:=congrArg Prod.fst hx
  simp only [DataW.slice.injEq] at e0
  obtain ⟨eE,eR⟩:=e0
  have hlen:len=ds.length:=by
    have:=congrArg List.length eE
    simp at this
    omega
  have hel2:∀ (i:Nat) d,ds[i]?=some d→∃ (cs:List Value) (q:List MemPlace),DataW.trod (fun _=>()) P w 0 (fun _=>true) false m e cs=some (d,q)∧cs.length=sz∧∀ j,j < sz→w.cell? (a.add (i * sz + j))=cs[j]?:=by
    intro i d hi
    have hlt:=(List.getElem?_eq_some_iff.1 hi).1
    have h1:=helem i (by omega)
    rw [hc] at h1
    obtain ⟨b,hb⟩:∃ b,el[i]?=some b:=⟨el[i]'(by omega),List.getElem?_eq_getElem (by omega)⟩
    rw [hb] at h1
    obtain ⟨ce,hce,hte⟩:=Option.bind_eq_some_iff.1 h1
    have hb1:b.1=d:=by
      have:=congrArg (·[i]?) eE
      simp only [List.getElem?_map,hb,hi,Option.map_some,Option.some.injEq] at this
      exact this.symm
    obtain ⟨_,hcl,hcc⟩:=World.cells?_some hce
    refine ⟨ce,b.2,by rw [←hb1];exact hte,hcl,fun j hj=>?_⟩
    have:=hcc j hj
    rw [addr_add2] at this
    exact this
  obtain ⟨R,o,sR⟩:=a
  obtain ⟨d0,hd0⟩:∃ d,ds[0]?=some d:=⟨_,List.getElem?_eq_getElem hl⟩
  obtain rfl:sR=none:=by
    obtain ⟨cs0,_,_,hl0,h00⟩:=hel2 0 d0 hd0
    have h00:=h00 0 (by omega)
    obtain ⟨c0,hc0⟩:∃ c,cs0[0]?=some c:=⟨_,List.getElem?_eq_getElem (by omega)⟩
    rw [hc0,show (Addr.add ⟨R,o,sR⟩ (0 * sz + 0))=⟨R,o,sR⟩ by simp [Addr.add]] at h00
    exact Go.Proofs.cell_spot h00
  refine ⟨R,o,cap,?_,fun i d hi=>?_⟩
  · rw [World.var?_cell hg hvar 0,←Array.getElem?_toList,hcs,hlen]
    rfl
  · obtain ⟨cs0,q,h1,h2,h3⟩:=hel2 i d hi
    refine ⟨m,cs0,q,h1,h2,fun j hj=>?_⟩
    have:=h3 j hj
    rwa [Addr.add_lit,←Nat.add_assoc] at this
theorem struct_cells {t:TypeId} {fs:Array Field} {fuel:Nat} {cs:List Value} {ds:List (DataW Unit)} {p:List MemPlace} (ht:P.underlying t=some (.struct fs)) (hct:P.cellsOf t=fs.size) (hf:∀ (i:Nat) (f:Field),fs[i]?=some f→f.offset=i∧P.cellsOf f.type=1)
    (h:DataW.trod (fun _=>()) P w 0 (fun _=>true) false fuel t cs=some (.agg ds,p)):∀ (i:Nat) (f:Field),fs[i]?=some f→∃ (n:Nat) (d:DataW Unit) (q:List MemPlace) (c:Value),ds[i]?=some d∧cs[i]?=some c∧DataW.trod (fun _=>()) P w 0 (fun _=>true) false n f.type [c]=some (d,q):=by
  obtain ⟨xs,n,rfl,hx,hl,hxl,hall⟩:=DataW.trod_struct ht h
  intro i f hi
  obtain ⟨ho,hc⟩:=hf i f hi
  have hlt:=(Array.getElem?_eq_some_iff.1 hi).1
  have h1:=hall i f hi
  obtain ⟨b,hb⟩:∃ b,xs[i]?=some b:=⟨xs[i]'(by omega),List.getElem?_eq_getElem (by omega)⟩
  obtain ⟨c,hcs⟩:∃ c,cs[i]?=some c:=⟨cs[i]'(by omega),List.getElem?_eq_getElem (by omega)⟩
  have hds:xs.map (·.1)=ds:=by
    have:=congrArg Prod.fst hx
    simpa using this.symm
  have htk:(cs.drop i).take 1=[c]:=by
    have e:=List.drop_eq_getElem_cons (l:=cs) (i:=i) (by omega)
    rw [e,(List.getElem?_eq_some_iff.1 hcs).2]
    rfl
  rw [ho,hc,htk,hb] at h1
  exact ⟨n,b.1,b.2,c,by rw [←hds];simp [hb],hcs,h1⟩
end
theorem opt_of {W:World} (h:VarReads Tryz.prog W "internal/strconv.optimize" Rows.laid_internal_strconv_optimize):W.cell? ⟨4,0,none⟩=some (.bool true):=by
  obtain ⟨g,t,cs,fuel,p,hg,hty,hvar,hd⟩:=h
  obtain rfl:=Option.some.inj ((show Tryz.prog.globalNamed "internal/strconv.optimize" = some 4 by kernel_rfl).symm.trans hg)
  obtain rfl:=Option.some.inj ((show (Tryz.prog.globals[4]?).map (·.type)=some 4 by kernel_rfl).symm.trans hty)
  obtain ⟨b,hb,hx⟩:=DataW.trod_bool Tryz.underlying4 hd
  have hx:=congrArg Prod.fst hx
  simp only [Rows.laid_internal_strconv_optimize,DataW.lit.injEq,Lit.bool.injEq] at hx
  subst hx
  rw [World.var?_cell hg hvar 0,←Array.getElem?_toList,hb]
  rfl
theorem info_of {W:World} (h:VarReads Tryz.prog W "internal/strconv.float64info" Rows.laid_internal_strconv_float64info):W.cell? ⟨11,0,none⟩=some (.int .u64 52)∧W.cell? ⟨11,1,none⟩=some (.int .u64 11)∧W.cell? ⟨11,2,none⟩=some (.int .i64 (-1023)):=by
  obtain ⟨g,t,cs,fuel,p,hg,hty,hvar,hd⟩:=h
  obtain rfl:=Option.some.inj ((show Tryz.prog.globalNamed "internal/strconv.float64info" = some 11 by kernel_rfl).symm.trans hg)
  obtain rfl:=Option.some.inj ((show (Tryz.prog.globals[11]?).map (·.type)=some 218 by kernel_rfl).symm.trans hty)
  have hs:=struct_cells Tryz.underlying218 (by kernel_rfl) (fun i f hf=>by
    match i,hf with
    | 0,hf=>simp at hf;subst hf;exact ⟨rfl,by kernel_rfl⟩
    | 1,hf=>simp at hf;subst hf;exact ⟨rfl,by kernel_rfl⟩
    | 2,hf=>simp at hf;subst hf;exact ⟨rfl,by kernel_rfl⟩
    | i + 3,hf=>simp at hf) hd
  obtain ⟨n0,d0,q0,c0,a0,b0,t0⟩:=hs 0 _ rfl
  obtain ⟨n1,d1,q1,c1,a1,b1,t1⟩:=hs 1 _ rfl
  obtain ⟨n2,d2,q2,c2,a2,b2,t2⟩:=hs 2 _ rfl
  obtain ⟨z0,e0,f0,_⟩:=DataW.trod_int (k:=.u64) (by kernel_rfl) t0
  obtain ⟨z1,e1,f1,_⟩:=DataW.trod_int (k:=.u64) (by kernel_rfl) t1
  obtain ⟨z2,e2,f2,_⟩:=DataW.trod_int (k:=.i64) (by kernel_rfl) t2
  simp only [List.cons.injEq,and_true] at e0 e1 e2
  simp only [Prod.mk.injEq] at f0 f1 f2
  obtain ⟨rfl,_⟩:=f0
  obtain ⟨rfl,_⟩:=f1
  obtain ⟨rfl,_⟩:=f2
  subst e0;subst e1;subst e2
  simp at a0 a1 a2
  subst a0;subst a1;subst a2
  exact ⟨by rw [World.var?_cell hg hvar 0,←Array.getElem?_toList];exact b0,by rw [World.var?_cell hg hvar 1,←Array.getElem?_toList];exact b1,by rw [World.var?_cell hg hvar 2,←Array.getElem?_toList];exact b2⟩
theorem powtab_of {W:World} (h:VarReads Tryz.prog W "internal/strconv.powtab" Rows.laid_internal_strconv_powtab):∃ pb po pc,W.cell? ⟨19,0,none⟩=some (.slice (some ⟨pb,po,none⟩) 9 pc)∧∀ d:Nat,d < 9→W.cell? ⟨pb,po + d,none⟩=some (.int .i64 (ptab d)):=by
  obtain ⟨R,o,cap,h1,h2⟩:=tabSlice_of_reads (l:=[1,3,6,9,13,16,19,23,26]) (g:=19) (t:=111) (e:=3) (by kernel_rfl) (by kernel_rfl) Tryz.underlying111 Tryz.underlying3 (by kernel_rfl) (by decide) h
  refine ⟨R,o,cap,h1,fun d hd=>?_⟩
  rw [h2 d hd]
  match d,hd with
  | 0,_=>rfl
  | 1,_=>rfl
  | 2,_=>rfl
  | 3,_=>rfl
  | 4,_=>rfl
  | 5,_=>rfl
  | 6,_=>rfl
  | 7,_=>rfl
  | 8,_=>rfl
  | d + 9,hd=>omega
theorem pow10_of {W:World} (h:VarReads Tryz.prog W "internal/strconv.pow10Tab" Go.Pinned.pow10Tab):∀ i:Nat,i < 696→∃ h l:Nat,h < 18446744073709551616∧l < 18446744073709551616∧W.cell? ⟨21,i * 2,none⟩=some (.int .u64 h)∧W.cell? ⟨21,i * 2 + 1,none⟩=some (.int .u64 l):=by
  obtain ⟨g,t,cs,fuel,p,hg,hty,hvar,hd⟩:=h
  obtain rfl:=Option.some.inj ((show Tryz.prog.globalNamed "internal/strconv.pow10Tab" = some 21 by kernel_rfl).symm.trans hg)
  obtain rfl:=Option.some.inj ((show (Tryz.prog.globals[21]?).map (·.type)=some 282 by kernel_rfl).symm.trans hty)
  intro i hi
  obtain ⟨fuel',d,q,hdi,he⟩:=array_elem Tryz.underlying282 hd i hi
  have hc2:Tryz.prog.cellsOf 281=2:=by kernel_rfl
  rw [hc2] at he
  have hdm:∃ x:Nat × Nat,d=.agg [.lit (.int .u64 x.1),.lit (.int .u64 x.2)]:=by
    rw [List.getElem?_map] at hdi
    obtain ⟨x,_,hx⟩:=Option.map_eq_some_iff.1 hdi
    exact ⟨x,hx.symm⟩
  obtain ⟨x,rfl⟩:=hdm
  have hs:=struct_cells Tryz.underlying281 (by kernel_rfl) (fun i f hf=>by
    match i,hf with
    | 0,hf=>simp at hf;subst hf;exact ⟨rfl,by kernel_rfl⟩
    | 1,hf=>simp at hf;subst hf;exact ⟨rfl,by kernel_rfl⟩
    | i + 2,hf=>simp at hf) he
  obtain ⟨n0,d0,q0,c0,a0,b0,t0⟩:=hs 0 _ rfl
  obtain ⟨n1,d1,q1,c1,a1,b1,t1⟩:=hs 1 _ rfl
  obtain ⟨z0,e0,f0,w0⟩:=DataW.trod_int (k:=.u64) (by kernel_rfl) t0
  obtain ⟨z1,e1,f1,w1⟩:=DataW.trod_int (k:=.u64) (by kernel_rfl) t1
  simp only [List.cons.injEq,and_true] at e0 e1
  simp only [Prod.mk.injEq] at f0 f1
  obtain ⟨rfl,_⟩:=f0
  obtain ⟨rfl,_⟩:=f1
  subst e0;subst e1
  simp only [List.getElem?_cons_zero,List.getElem?_cons_succ,Option.some.injEq,DataW.lit.injEq,Lit.int.injEq,true_and] at a0 a1
  subst a0;subst a1
  simp only [List.getElem?_take,List.getElem?_drop] at b0 b1
  have r0:((x.1:Nat):Int) < 18446744073709551616:=by
    simp only [Lit.wf,Bool.and_eq_true,decide_eq_true_eq] at w0
    have hmx:IntKind.u64.max=18446744073709551615:=by decide
    omega
  have r1:((x.2:Nat):Int) < 18446744073709551616:=by
    simp only [Lit.wf,Bool.and_eq_true,decide_eq_true_eq] at w1
    have hmx:IntKind.u64.max=18446744073709551615:=by decide
    omega
  refine ⟨x.1,x.2,by omega,by omega,?_,?_⟩
  · rw [World.var?_cell hg hvar (i * 2),←Array.getElem?_toList]
    simpa using b0
  · rw [World.var?_cell hg hvar (i * 2 + 1),←Array.getElem?_toList]
    simpa using b1
theorem read_normal {x:Nat} (h1:4503599627370496≤x) (h2:x < 9218868437227405312):∃ s m j,FloatKind.f64.format.read x=.number s m j∧m≠0:=by
  have e1:FloatKind.f64.format=Ieee.double:=rfl
  have e2:Ieee.double.signWeight=9223372036854775808:=by decide
  have e3:Ieee.double.infRung=9218868437227405312:=by decide
  have e4:Ieee.double.binade=4503599627370496:=by decide
  have hm:x % 9223372036854775808=x:=Nat.mod_eq_of_lt (by omega)
  rw [e1]
  unfold Ieee.Format.read
  simp only [e2,e3,e4,hm]
  rw [if_neg (by omega),if_pos h2]
  exact ⟨_,_,_,rfl,by omega⟩
def p64L:List Nat:=[4607182418800017408,4621819117588971520,4636737291354636288,4652007308841189376,4666723172467343360,4681608360884174848,4696837146684686336,4711630319722168320,4726483295884279808,4741671816366391296,4756540486875873280,4771362005757984768,4786511204640096256,4801453603149578240,4816244402031689728,4831355200913801216,4846369599423283200,4861130398305394688,4876203697187506176,4891288408196988160,4906019910204099648,4921056587992461136,4936209963552724370]
theorem p64L_ok:(p64L.all fun x=>decide (4503599627370496≤x) && decide (x < 9218868437227405312))=true:=by decide
theorem p64_of {W:World} (h:VarReads Tryz.prog W "internal/strconv.float64pow10" Rows.laid_internal_strconv_float64pow10):∃ fb fo fc,W.cell? ⟨20,0,none⟩=some (.slice (some ⟨fb,fo,none⟩) 23 fc)∧∀ i:Nat,i < 23→∃ x:Nat,W.cell? ⟨fb,fo + i,none⟩=some (.float .f64 x)∧4503599627370496≤x∧x < 9218868437227405312:=by
  have e:(Rows.laid_internal_strconv_float64pow10:DataW Unit)=.slice (p64L.map fun x=>.lit (.float .f64 x)) []:=by kernel_rfl
  rw [e] at h
  obtain ⟨R,o,cap,h1,h2⟩:=slice_of_reads (g:=20) (t:=275) (e:=22) (sz:=1) (by kernel_rfl) (by kernel_rfl) Tryz.underlying275 (by kernel_rfl) (by omega) (by simp [p64L]) h
  refine ⟨R,o,cap,by simpa [p64L] using h1,fun i hi=>?_⟩
  have hl:p64L.length=23:=by decide
  obtain ⟨x,hx⟩:∃ x,p64L[i]?=some x:=⟨_,List.getElem?_eq_getElem (by omega)⟩
  obtain ⟨n,cs,q,h3,h4,h5⟩:=h2 i (.lit (.float .f64 x)) (by simp [hx])
  obtain ⟨z,rfl,hz⟩:=trod_float Tryz.underlying22 h3
  simp only [DataW.lit.injEq,Lit.float.injEq,true_and] at hz
  subst hz
  have h6:=h5 0 (by omega)
  have h7:=List.all_eq_true.1 p64L_ok x (List.mem_of_getElem? hx)
  simp only [Bool.and_eq_true,decide_eq_true_eq] at h7
  exact ⟨x,by simpa using h6,h7.1,h7.2⟩
theorem cheats_ok:((List.range 60).all fun k=>Go.Pinned.cheatRows[k + 1]? == some (lcD (k + 1),digF 60 (5 ^ (k + 1))))=true:=by kernel_rfl
theorem cheats_of {W:World} (h:VarReads Tryz.prog W "internal/strconv.leftcheats" Go.Pinned.leftcheats):∀ k,1≤k→k≤60→LcAt W k:=by
  obtain ⟨R,o,cap,h1,h2⟩:=slice_of_reads (g:=22) (t:=288) (e:=287) (sz:=2) (by kernel_rfl) (by kernel_rfl) Tryz.underlying288 (by kernel_rfl) (by omega) (by simp [Go.Pinned.cheatRows]) h
  intro k hk1 hk2
  have hl:Go.Pinned.cheatRows.length=61:=by kernel_rfl
  rw [List.length_map,hl] at h1
  have hk:=List.all_eq_true.1 cheats_ok (k - 1) (List.mem_range.2 (by omega))
  rw [show k - 1 + 1=k by omega] at hk
  have hk:=eq_of_beq hk
  obtain ⟨n,cs,q,h3,h4,h5⟩:=h2 k _ (by rw [List.getElem?_map,hk];rfl)
  have hs:=struct_cells (t:=287) (by exact Tryz.underlying287) (by kernel_rfl) (fun i f hf=>by
    match i,hf with
    | 0,hf=>simp at hf;subst hf;exact ⟨rfl,by kernel_rfl⟩
    | 1,hf=>simp at hf;subst hf;exact ⟨rfl,by kernel_rfl⟩
    | i + 2,hf=>simp at hf) h3
  obtain ⟨n0,d0,q0,c0,a0,b0,t0⟩:=hs 0 _ rfl
  obtain ⟨n1,d1,q1,c1,a1,b1,t1⟩:=hs 1 _ rfl
  obtain ⟨z0,e0,f0,_⟩:=DataW.trod_int (k:=.i64) (by kernel_rfl) t0
  obtain ⟨z1,e1,f1,_⟩:=DataW.trod_string (by kernel_rfl) t1
  simp only [List.cons.injEq,and_true] at e0 e1
  simp only [Prod.mk.injEq] at f0 f1
  obtain ⟨rfl,_⟩:=f0
  obtain ⟨rfl,_⟩:=f1
  subst e0;subst e1
  simp only [List.getElem?_cons_zero,List.getElem?_cons_succ,Option.some.injEq,DataW.lit.injEq,Lit.int.injEq,Lit.string.injEq,true_and] at a0 a1
  subst a0
  refine ⟨R,o,cap,h1,?_,?_⟩
  · have:=h5 0 (by omega)
    rw [b0] at this
    simpa using this
  · have:=h5 1 (by omega)
    rw [b1] at this
    rw [this]
    unfold lcS
    rw [a1]
theorem finit_of {W:World} (h1:VarReads Tryz.prog W "internal/strconv.optimize" Rows.laid_internal_strconv_optimize) (h2:VarReads Tryz.prog W "internal/strconv.float64info" Rows.laid_internal_strconv_float64info) (h3:VarReads Tryz.prog W "internal/strconv.powtab" Rows.laid_internal_strconv_powtab) (h4:VarReads Tryz.prog W "internal/strconv.float64pow10" Rows.laid_internal_strconv_float64pow10) (h5:VarReads Tryz.prog W "internal/strconv.leftcheats" Go.Pinned.leftcheats) (h6:VarReads Tryz.prog W "internal/strconv.pow10Tab" Go.Pinned.pow10Tab):FInit3 W:=by
  obtain ⟨i0,i1,i2⟩:=info_of h2
  obtain ⟨fb,fo,fc,f0,f1⟩:=p64_of h4
  refine { opt:=opt_of h1,f0:=i0,f1:=i1,f2:=i2,pt:=powtab_of h3,lc:=cheats_of h5,p10:=pow10_of h6,p64:=⟨fb,fo,fc,f0,fun i hi=>?_⟩,nz:=?_ }
  · obtain ⟨x,hx,_⟩:=f1 i hi
    exact ⟨x,hx⟩
  · intro fb' fo' i x hc hi hx
    obtain ⟨fc',hc⟩:=hc
    rw [f0] at hc
    injection hc with hc;injection hc with hc1 hc2 hc3;injection hc1 with hc1;injection hc1 with e1 e2
    subst e1;subst e2
    obtain ⟨y,hy,r1,r2⟩:=f1 i hi
    rw [hx] at hy
    injection hy with hy;injection hy with hy1 hy2
    subst hy2
    exact read_normal r1 r2
theorem tabs_of {W:World} (h1:VarReads Tryz.prog W "unicode/utf8.first" Go.Pinned.utf8First) (h2:VarReads Tryz.prog W "unicode/utf8.acceptRanges" Rows.laid_unicode_utf8_acceptRanges):Lib.Utf8Tabs 26 27 W:=by
  rw [Go.Pinned.utf8First_eq] at h1
  exact Go.Proofs.utf8Tabs_of_reads (ρ:=Tryz.lays260_ren) Tryz.lays260 { n3:=by kernel_rfl,n4:=by kernel_rfl,y3:=by kernel_rfl,y4:=by kernel_rfl,c5:=by kernel_rfl,c119:=by kernel_rfl,c138:=by kernel_rfl } h1 h2
theorem laid_suffix {P:Program} {w:World} : ∀ (l1 l2:List (String × DataW Unit)) (ps:List MemPlace),DataW.LaidVars P w (l1 ++ l2) ps→∃ q1 q2,ps=q1 ++ q2∧DataW.LaidVars P w l2 q2
  | [],l2,ps,h=>⟨[],ps,rfl,h⟩
  | (n,d)::l1,l2,ps,h=>by
    obtain ⟨g,t,cs,fuel,p,q,h1,h2,h3,h4,h5,rfl⟩:=h
    obtain ⟨q1,q2,rfl,h6⟩:=laid_suffix l1 l2 q h5
    exact ⟨MemPlace.row ⟨g,0,none⟩ cs.size ++ p ++ q1,q2,by simp,h6⟩
theorem star_errorString : "*" ++ "errors.errorString" = "*errors.errorString" := by decide
theorem row_errorString (u:TypeId) (h:Tryz.prog.typeName? 3 u=some "*errors.errorString"):u=233 :=
  typeName_ptr_named (nm := "errors.errorString") (by rw [star_errorString];kernel_rfl) (by kernel_rfl) (by decide) u (by rw [star_errorString];exact h)
set_option maxRecDepth 100000 in
theorem err_of {W:World} {name:String} {g:Nat} {text:List UInt8} {t:TypeId} {cs:Array Value} {fuel:Nat} {p:List MemPlace} (ht:t=92) (hvar:W.var? Tryz.prog name=some cs) (hg:Tryz.prog.globalNamed name=some g)
    (hd:DataW.trod (fun _=>()) Tryz.prog W 0 (fun _=>true) false fuel t cs.toList=some (.iface "*errors.errorString" (.ptr (.agg [.lit (.string text)])),p)) (hok:∀ u v,W.cell? ⟨g,0,none⟩=some (.iface u v)→Value.okWide Tryz.prog W .any 0 u v) :
    ∃ a s,W.cell? ⟨g,0,none⟩=some (.iface 233 (.pointer (some a)))∧W.cell? a=some (.string s)∧p=MemPlace.row a 1:=by
  subst ht
  obtain ⟨a,s,h1,h2,h3,h4,h5⟩:=errorString_of_trod (P:=Tryz.prog) (ti:=92) (tp:=233) (te:=235) (ts:=9) Tryz.underlying92 (fun u hu=>row_errorString u hu) Tryz.underlying233 (by exact Tryz.underlying235) rfl rfl Tryz.underlying9 (by kernel_rfl) (by kernel_rfl) hd
    (fun u v hc=>hok u v (by rw [World.var?_cell hg hvar 0,←Array.getElem?_toList,hc];rfl))
  exact ⟨a,s,by rw [World.var?_cell hg hvar 0,←Array.getElem?_toList,h1];rfl,h2,h5⟩
theorem cells_size {P:Program} {W:World} {name:String} {g:Nat} {cs:Array Value} {v:Value} (hvar:W.var? P name=some cs) (hg:P.globalNamed name=some g) (h:W.cell? ⟨g,0,none⟩=some v):0 < cs.size:=by
  rw [World.var?_cell hg hvar 0] at h
  exact (Array.getElem?_eq_some_iff.1 h).1
set_option maxRecDepth 100000 in
theorem errs_of {W:World} {l1 l2:List (String × DataW Unit)} (h:laidMet Tryz.prog (l1 ++ ("strconv.ErrRange", Rows.laid_strconv_ErrRange)::("strconv.ErrSyntax", Rows.laid_strconv_ErrSyntax)::l2) W):∃ a b ca cb,ErrAB W a b ca cb:=by
  obtain ⟨ps,hv,hnd,hrow⟩:=h
  obtain ⟨q1,q2,rfl,hv2⟩:=laid_suffix l1 _ ps hv
  obtain ⟨g,t,cs,fuel,p,q,hg,hty,hvar,hd,hv3,rfl⟩:=hv2
  obtain ⟨g',t',cs',fuel',p',q',hg',hty',hvar',hd',_,rfl⟩:=hv3
  obtain rfl:=Option.some.inj ((show Tryz.prog.globalNamed "strconv.ErrRange" = some 3 by kernel_rfl).symm.trans hg)
  obtain rfl:=Option.some.inj ((show Tryz.prog.globalNamed "strconv.ErrSyntax" = some 2 by kernel_rfl).symm.trans hg')
  obtain rfl:=Option.some.inj ((show (Tryz.prog.globals[3]?).map (·.type)=some 92 by kernel_rfl).symm.trans hty)
  obtain rfl:=Option.some.inj ((show (Tryz.prog.globals[2]?).map (·.type)=some 92 by kernel_rfl).symm.trans hty')
  have in1:∀ x∈MemPlace.row ⟨3,0,none⟩ cs.size ++ p ++ (MemPlace.row ⟨2,0,none⟩ cs'.size ++ p' ++ q'),x∈q1 ++ (MemPlace.row ⟨3,0,none⟩ cs.size ++ p ++ (MemPlace.row ⟨2,0,none⟩ cs'.size ++ p' ++ q')):=fun x hx=>List.mem_append_right _ hx
  have ok3:∀ u v,W.cell? ⟨3,0,none⟩=some (.iface u v)→Value.okWide Tryz.prog W .any 0 u v:=fun u v hc=>by
    have hs:=cells_size hvar hg hc
    exact (hrow 3 0 (in1 _ (List.mem_append_left _ (List.mem_append_left _ (MemPlace.mem_row.2 ⟨0,hs,rfl⟩))))).2 u v hc
  have ok2:∀ u v,W.cell? ⟨2,0,none⟩=some (.iface u v)→Value.okWide Tryz.prog W .any 0 u v:=fun u v hc=>by
    have hs:=cells_size hvar' hg' hc
    exact (hrow 2 0 (in1 _ (List.mem_append_right _ (List.mem_append_left _ (List.mem_append_left _ (MemPlace.mem_row.2 ⟨0,hs,rfl⟩)))))).2 u v hc
  obtain ⟨b,s,h1,h2,rfl⟩:=err_of rfl hvar hg hd ok3
  obtain ⟨a,s',h1',h2',rfl⟩:=err_of rfl hvar' hg' hd' ok2
  have mb:MemPlace.cell b.block b.off∈MemPlace.row b 1:=MemPlace.mem_row.2 ⟨0,by omega,rfl⟩
  have ma:MemPlace.cell a.block a.off∈MemPlace.row a 1:=MemPlace.mem_row.2 ⟨0,by omega,rfl⟩
  have hb3:=(hrow b.block b.off (in1 _ (List.mem_append_left _ (List.mem_append_right _ mb)))).1
  have ha3:=(hrow a.block a.off (in1 _ (List.mem_append_right _ (List.mem_append_left _ (List.mem_append_right _ ma))))).1
  obtain ⟨cb,tb,hcb⟩:=hb3
  obtain ⟨ca,ta,hca⟩:=ha3
  refine ⟨a,b,ca,cb,{ syn:=h1',ran:=h1,ne:=?_,ha:=⟨ta,hca⟩,hb:=⟨tb,hcb⟩ }⟩
  intro e
  subst e
  have h1:=(List.nodup_append.1 hnd).2.1
  have h2:=(List.nodup_append.1 h1).2.2
  exact h2 _ (List.mem_append_right _ mb) _ (List.mem_append_left _ (List.mem_append_right _ ma)) rfl
end Go.Proofs.YtfkecmlmnhbmoaaGreatDoor
namespace Go.Proofs.YtfkecmlmnhbmoaaGreatDoor
open Go Go.RowKit
open Go.Maps
theorem pre_word {c:UInt8} {l1:By} (hd:isDelim (c.toNat:Int)=false) (hw:isWhite (c.toNat:Int)=false):isReg (c.toNat:Int)=true:=by
  unfold isReg;rw [hw,hd];rfl
set_option maxRecDepth 100000 in
set_option maxHeartbeats 40000000 in
theorem pval_num (pf:By→Nat) (nn:Nat→Prop) (hnn:∀ t,numOk t→nn (pf t)) (W0 w:World) (ea eb:Addr) (ca cb:Array Value) (hI:InitQ W0 ea eb ca cb) (hpf:PFC pf W0) (hE:Env W0 w) (n:Nat) (b:Nat) (c:UInt8) (l1:By) (hL:LineAt w b (c::l1)) (hl:l1.length≤100000) (hW0:W0.heap.size≤b) (hd:isDelim (c.toNat:Int)=false) (hw:isWhite (c.toNat:Int)=false) (x:PV) (r:By) (h:rdNum pf (c::l1) false=some (x,r,false)) (lv:Int) :
    Calls Tryz.prog 82 #[.agg #[],.pointer (some ⟨b,0,none⟩),.int .i64 lv,.int .i64 100,.bool false] w fun e w'=>ObjPost nn (n + 1) w w' b x r e:=by
  have hr:=pre_word (l1:=l1) hd hw
  have hsp:=word_split (c::l1)
  by_cases h1:wordT (c::l1)=wTrue
  · have h':=h
    simp only [rdNum,if_pos h1] at h'
    simp at h'
    obtain ⟨rfl,rfl,_⟩:=h'
    rw [h1] at hsp
    exact val_word nn n w b c l1 wTrue (wordR (c::l1)) hL hsp.symm hd (.iface 66 (.bool true)) (.bool true) _ (by decide) (fun _ _=>by simp only [ObjO]) (by simp [Corr]) (fun w=>bon_true (c::l1) (wordR (c::l1)) hsp.symm (by simp;omega) w) (.inr ⟨_,rfl⟩) lv
  · by_cases h2:wordT (c::l1)=wFalse
    · have h':=h
      simp only [rdNum,if_neg h1,if_pos h2] at h'
      simp at h'
      obtain ⟨rfl,rfl,_⟩:=h'
      rw [h2] at hsp
      exact val_word nn n w b c l1 wFalse (wordR (c::l1)) hL hsp.symm hd (.iface 66 (.bool false)) (.bool false) _ (by decide) (fun _ _=>by simp only [ObjO]) (by simp [Corr]) (fun w=>bon_false (c::l1) (wordR (c::l1)) hsp.symm (by simp;omega) w) (.inr ⟨_,rfl⟩) lv
    · by_cases h3:wordT (c::l1)=wNull
      · have h':=h
        simp only [rdNum,if_neg h1,if_neg h2,if_pos h3] at h'
        simp at h'
        obtain ⟨rfl,rfl,_⟩:=h'
        rw [h3] at hsp
        exact val_word nn n w b c l1 wNull (wordR (c::l1)) hL hsp.symm hd .nilIface .null _ (by decide) (fun _ _=>by simp only [ObjO]) (by simp [Corr]) (fun w=>bon_null (c::l1) (wordR (c::l1)) hsp.symm (by simp;omega) w) (.inl rfl) lv
      · have h0:(numF pf (wordT (c::l1))).2.2.2=0:=by
          have h':=h
          simp only [rdNum,if_neg h1,if_neg h2,if_neg h3] at h'
          split at h'
          · simp at h'
          · rename_i h0;simpa using h0
        have hwt:wordT (c::l1)=c::wordT l1:=by simp [wordT,hr]
        have hhd:=num_head (pf:=pf) (c:=c) (l:=wordT l1) (by rw [←hwt,h0];decide)
        obtain ⟨q1,q2,q3⟩:=loB_num hhd
        obtain ⟨c0,f0⟩:=hL.cell
        have hbw:=hL.lt
        obtain ⟨z,hz⟩:∃ z,z=bs (c::l1):=⟨_,rfl⟩
        obtain ⟨hk1,hget⟩:=bs_at (l:=c::l1) (pre:=[]) (c:=c) (post:=l1) rfl
        have hz0:0 < z.size:=by rw [hz];exact hk1
        have hg0:z[0]'hz0=c:=by simp only [hz];exact hget
        have hga:w.grownBy (w.alloc (Obj.cells #[] 99)) none:=gr_alloc (World.grownBy.refl _ _) _
        have hbn:=fun w=>bon_none c l1 q1 q2 q3 (by omega) w
        rw [←hz] at c0 hbn
        have hfin:=fun (w2:World) (hE2:Env W0 w2) (hL2:LineAt w2 b (c::l1))=>num105_any pf nn hnn W0 w2 ea eb ca cb hI hpf hE2 b (c::l1) hL2 (by simp;omega) hW0 x r h1 h2 h3 h n
        obtain ⟨h91,h47,h60,h40⟩:=num_noopen hd
        have HL:=Lib.hid hL
        have Hga:=Lib.hid hga
        have HE:=Lib.hid hE
        have Hfin:=Lib.hid hfin
        clear hL hz hk1 hget hga hd hE hfin h1 h2 h3 h h0 hwt hhd q1 q2 q3 hsp hw hr hI hpf
        go_enter Tryz.func82,Tryz.ntmps82
        go_wp2_with fail
        refine (hbn _).mono ?_
        rintro e w1 ⟨⟨v1,s1,rfl⟩,hb1⟩
        have hg1:=Hga.out.trans (gr_of_below hb1)
        have hL1:=HL.out.keep hg1 (by simp)
        have hd:=Hfin.out w1 (HE.out.grown0 hg1) hL1
        have Hg1:=Lib.hid hg1
        clear hg1 hL1 hb1
        go_wp2_with fail
        refine hd.mono ?_
        intro e w2 hp
        have H:=Lib.hid (ObjPost.box Hg1.out hp)
        obtain ⟨po,v,S,rfl,-,-,-,-,-⟩:=hp
        go_wp2_with fail
        go_ret2
        exact H.out
end Go.Proofs.YtfkecmlmnhbmoaaGreatDoor
