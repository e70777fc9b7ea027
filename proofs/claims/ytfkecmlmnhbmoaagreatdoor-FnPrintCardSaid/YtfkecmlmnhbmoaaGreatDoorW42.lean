/- Parts R1 L3 K8 K9 D3 Q4 Q5. -/
import Derived.PinnedBridge
import Derived.OpenShut
import Derived.Test.YtfkecmlmnhbmoaaGreatDoorRows
import Derived.Lib.ItoaLen
import Derived.Test.YtfkecmlmnhbmoaaGreatDoorW40
set_option linter.unusedVariables false
set_option linter.unusedSimpArgs false
set_option maxRecDepth 100000
set_option maxHeartbeats 40000000
namespace Go.Proofs.YtfkecmlmnhbmoaaGreatDoor
open Go Go.RowKit Go.Lib
section
variable {P:Program} {w:World}
theorem trod_float {k:FloatKind}{t:TypeId}{fuel:Nat}{cs:List Value}{x:DataW Unit×List MemPlace}(ht:P.underlying t=some (.float k))(h:DataW.trod (fun _=>()) P w 0 (fun _=>true) false fuel t cs=some x):∃n,cs=[.float k n]∧x.1=.lit (.float k n):=by
 cases fuel with
 | zero=>simp[DataW.trod]at h
 | succ n =>
  unfold DataW.trod at h;rw[ht]at h
  split at h<;>simp_all
  all_goals first
   | (obtain⟨_,h⟩:=h;rw[←h])
   | rw[←h]
theorem addr_add2 (a:Addr)(n m:Nat):(a.add n).add m=a.add (n+m):=by
 unfold Addr.add
 by_cases h1:n=0
 ·subst h1;simp
 ·by_cases h2:m=0
  ·subst h2;simp
  ·simp[h1,h2,Nat.add_assoc]
theorem slice_of_reads {name:String}{g:Nat}{t e:TypeId}{sz:Nat}{ds:List (DataW Unit)}(hn:P.globalNamed name=some g)(hy:(P.globals[g]?).map (·.type)=some t)(ht:P.underlying t=some (.slice e))(hc:P.cellsOf e=sz)(hsz:1≤sz)(hl:0<ds.length)(h:VarReads P w name (.slice ds [])) :
  ∃R o cap,w.cell? ⟨g,0,none⟩=some (.slice (some ⟨R,o,none⟩) ds.length cap)∧∀(i:Nat) d,ds[i]?=some d→∃(n:Nat) (cs:List Value) (q:List MemPlace),DataW.trod (fun _=>()) P w 0 (fun _=>true) false n e cs=some (d,q)∧cs.length=sz∧∀j,j<sz→w.cell? ⟨R,o+i*sz+j,none⟩=cs[j]?:=by
 obtain⟨g',t',cs,fuel,p,hg,hty,hvar,hd⟩:=h;obtain rfl:=Option.some.inj (hn.symm.trans hg);obtain rfl:=Option.some.inj (hy.symm.trans hty);rcases DataW.trod_slice ht hd with⟨_,hx⟩|⟨a,len,cap,el,rs,m,rfl,hcs,hx,_,hlc,_,hel,helem,hsp,_⟩
 ·cases hx
 have e0:=congrArg Prod.fst hx;simp only[DataW.slice.injEq]at e0;obtain⟨eE,eR⟩:=e0
 have hlen:len=ds.length:=by
  have:=congrArg List.length eE;simp at this;omega
 have hel2:∀(i:Nat) d,ds[i]?=some d→∃(cs:List Value) (q:List MemPlace),DataW.trod (fun _=>()) P w 0 (fun _=>true) false m e cs=some (d,q)∧cs.length=sz∧∀j,j<sz→w.cell? (a.add (i*sz+j))=cs[j]?:=by
  intro i d hi;have hlt:=(List.getElem?_eq_some_iff.1 hi).1;have h1:=helem i (by omega);rw[hc]at h1;obtain⟨b,hb⟩:∃b,el[i]?=some b:=⟨el[i]'(by omega),List.getElem?_eq_getElem (by omega)⟩;rw[hb]at h1;obtain⟨ce,hce,hte⟩:=Option.bind_eq_some_iff.1 h1
  have hb1:b.1=d:=by
   have:=congrArg (·[i]?) eE;simp only[List.getElem?_map,hb,hi,Option.map_some,Option.some.injEq]at this;exact this.symm
  obtain⟨_,hcl,hcc⟩:=World.cells?_some hce;refine⟨ce,b.2,by rw[←hb1];exact hte,hcl,fun j hj=>?_⟩;have:=hcc j hj;rw[addr_add2]at this;exact this
 obtain⟨R,o,sR⟩:=a;obtain⟨d0,hd0⟩:∃d,ds[0]?=some d:=⟨_,List.getElem?_eq_getElem hl⟩
 obtain rfl:sR=none:=by
  obtain⟨cs0,_,_,hl0,h00⟩:=hel2 0 d0 hd0;have h00:=h00 0 (by omega);obtain⟨c0,hc0⟩:∃c,cs0[0]?=some c:=⟨_,List.getElem?_eq_getElem (by omega)⟩;rw[hc0,show (Addr.add ⟨R,o,sR⟩ (0*sz+0))=⟨R,o,sR⟩ by simp[Addr.add]]at h00;exact Go.Proofs.cell_spot h00
 refine⟨R,o,cap,?_,fun i d hi=>?_⟩
 ·rw[World.var?_cell hg hvar 0,←Array.getElem?_toList,hcs,hlen]
  rfl
 ·obtain⟨cs0,q,h1,h2,h3⟩:=hel2 i d hi
  refine⟨m,cs0,q,h1,h2,fun j hj=>?_⟩;have:=h3 j hj
  rwa [Addr.add_lit,←Nat.add_assoc]at this
theorem struct_cells {t:TypeId}{fs:Array Field}{fuel:Nat}{cs:List Value}{ds:List (DataW Unit)}{p:List MemPlace}(ht:P.underlying t=some (.struct fs))(hct:P.cellsOf t=fs.size)(hf:∀(i:Nat) (f:Field),fs[i]?=some f→f.offset=i∧P.cellsOf f.type=1)
  (h:DataW.trod (fun _=>()) P w 0 (fun _=>true) false fuel t cs=some (.agg ds,p)):∀(i:Nat) (f:Field),fs[i]?=some f→∃(n:Nat) (d:DataW Unit) (q:List MemPlace) (c:Value),ds[i]?=some d∧cs[i]?=some c∧DataW.trod (fun _=>()) P w 0 (fun _=>true) false n f.type [c]=some (d,q):=by
 obtain⟨xs,n,rfl,hx,hl,hxl,hall⟩:=DataW.trod_struct ht h;intro i f hi;obtain⟨ho,hc⟩:=hf i f hi;have hlt:=(xgl hi);have h1:=hall i f hi;obtain⟨b,hb⟩:∃b,xs[i]?=some b:=⟨xs[i]'(by omega),List.getElem?_eq_getElem (by omega)⟩;obtain⟨c,hcs⟩:∃c,cs[i]?=some c:=⟨cs[i]'(by omega),List.getElem?_eq_getElem (by omega)⟩
 have hds:xs.map (·.1)=ds:=by
  have:=congrArg Prod.fst hx;simpa using this.symm
 have htk:(cs.drop i).take 1=[c]:=by
  have e:=List.drop_eq_getElem_cons (l:=cs) (i:=i) (by omega);rw[e,(List.getElem?_eq_some_iff.1 hcs).2];rfl
 rw[ho,hc,htk,hb]at h1;exact⟨n,b.1,b.2,c,by rw[←hds];simp[hb],hcs,h1⟩
end
theorem opt_of {W:World}(h:VarReads Tryz.prog W "internal/strconv.optimize" Rows.laid_internal_strconv_optimize):W.cell? ⟨4,0,none⟩=some (.bool true):=by
 obtain⟨g,t,cs,fuel,p,hg,hty,hvar,hd⟩:=h;obtain rfl:=Option.some.inj ((show Tryz.prog.globalNamed "internal/strconv.optimize" = some 4 by kernel_rfl).symm.trans hg);obtain rfl:=Option.some.inj ((show (Tryz.prog.globals[4]?).map (·.type)=some 4 by kernel_rfl).symm.trans hty);obtain⟨b,hb,hx⟩:=DataW.trod_bool Tryz.underlying4 hd;have hx:=congrArg Prod.fst hx;simp only[Rows.laid_internal_strconv_optimize,DataW.lit.injEq,Lit.bool.injEq]at hx;subst hx;rw[World.var?_cell hg hvar 0,←Array.getElem?_toList,hb];rfl
theorem info_of {W:World}(h:VarReads Tryz.prog W "internal/strconv.float64info" Rows.laid_internal_strconv_float64info):W.cell? ⟨11,0,none⟩=some (.int .u64 52)∧W.cell? ⟨11,1,none⟩=some (.int .u64 11)∧W.cell? ⟨11,2,none⟩=some (.int .i64 (-1023)):=by
 obtain⟨g,t,cs,fuel,p,hg,hty,hvar,hd⟩:=h;obtain rfl:=Option.some.inj ((show Tryz.prog.globalNamed "internal/strconv.float64info" = some 11 by kernel_rfl).symm.trans hg);obtain rfl:=Option.some.inj ((show (Tryz.prog.globals[11]?).map (·.type)=some 218 by kernel_rfl).symm.trans hty)
 have hs:=struct_cells Tryz.underlying218 (by kernel_rfl) (fun i f hf=>by
  match i,hf with
  | 0,hf=>simp at hf;subst hf;exact⟨rfl,by kernel_rfl⟩
  | 1,hf=>simp at hf;subst hf;exact⟨rfl,by kernel_rfl⟩
  | 2,hf=>simp at hf;subst hf;exact⟨rfl,by kernel_rfl⟩
  | i+3,hf=>simp at hf) hd
 obtain⟨n0,d0,q0,c0,a0,b0,t0⟩:=hs 0 _ rfl;obtain⟨n1,d1,q1,c1,a1,b1,t1⟩:=hs 1 _ rfl;obtain⟨n2,d2,q2,c2,a2,b2,t2⟩:=hs 2 _ rfl;obtain⟨z0,e0,f0,_⟩:=DataW.trod_int (k:=.u64) (by kernel_rfl) t0;obtain⟨z1,e1,f1,_⟩:=DataW.trod_int (k:=.u64) (by kernel_rfl) t1;obtain⟨z2,e2,f2,_⟩:=DataW.trod_int (k:=.i64) (by kernel_rfl) t2;simp only[List.cons.injEq,and_true]at e0 e1 e2;simp only[Prod.mk.injEq]at f0 f1 f2;obtain⟨rfl,_⟩:=f0;obtain⟨rfl,_⟩:=f1;obtain⟨rfl,_⟩:=f2;subst e0;subst e1;subst e2
 simp at a0 a1 a2;subst a0;subst a1;subst a2
 exact⟨by rw[World.var?_cell hg hvar 0,←Array.getElem?_toList];exact b0,by rw[World.var?_cell hg hvar 1,←Array.getElem?_toList];exact b1,by rw[World.var?_cell hg hvar 2,←Array.getElem?_toList];exact b2⟩
theorem powtab_of {W:World}(h:VarReads Tryz.prog W "internal/strconv.powtab" Rows.laid_internal_strconv_powtab):∃pb po pc,W.cell? ⟨19,0,none⟩=some (.slice (some ⟨pb,po,none⟩) 9 pc)∧∀d:Nat,d<9→W.cell? ⟨pb,po+d,none⟩=some (.int .i64 (ptab d)):=by
 obtain⟨R,o,cap,h1,h2⟩:=tabSlice_of_reads (l:=[1,3,6,9,13,16,19,23,26]) (g:=19) (t:=111) (e:=3) (by kernel_rfl) (by kernel_rfl) Tryz.underlying111 Tryz.underlying3 (by kernel_rfl) (by decide) h;refine⟨R,o,cap,h1,fun d hd=>?_⟩;rw[h2 d hd]
 match d,hd with
 | 0,_=>rfl
 | 1,_=>rfl
 | 2,_=>rfl
 | 3,_=>rfl
 | 4,_=>rfl
 | 5,_=>rfl
 | 6,_=>rfl
 | 7,_=>rfl
 | 8,_=>rfl
 | d+9,hd=>omega
theorem pow10_of {W:World}(h:VarReads Tryz.prog W "internal/strconv.pow10Tab" Go.Pinned.pow10Tab):∀i:Nat,i<696→∃h l:Nat,h<18446744073709551616∧l<18446744073709551616∧W.cell? ⟨21,i*2,none⟩=some (.int .u64 h)∧W.cell? ⟨21,i*2+1,none⟩=some (.int .u64 l):=by
 obtain⟨g,t,cs,fuel,p,hg,hty,hvar,hd⟩:=h;obtain rfl:=Option.some.inj ((show Tryz.prog.globalNamed "internal/strconv.pow10Tab" = some 21 by kernel_rfl).symm.trans hg);obtain rfl:=Option.some.inj ((show (Tryz.prog.globals[21]?).map (·.type)=some 282 by kernel_rfl).symm.trans hty);intro i hi;obtain⟨fuel',d,q,hdi,he⟩:=array_elem Tryz.underlying282 hd i hi;have hc2:Tryz.prog.cellsOf 281=2:=by kernel_rfl
 rw[hc2]at he
 have hdm:∃x:Nat×Nat,d=.agg [.lit (.int .u64 x.1),.lit (.int .u64 x.2)]:=by
  rw[List.getElem?_map]at hdi;obtain⟨x,_,hx⟩:=Option.map_eq_some_iff.1 hdi;exact⟨x,hx.symm⟩
 obtain⟨x,rfl⟩:=hdm
 have hs:=struct_cells Tryz.underlying281 (by kernel_rfl) (fun i f hf=>by
  match i,hf with
  | 0,hf=>simp at hf;subst hf;exact⟨rfl,by kernel_rfl⟩
  | 1,hf=>simp at hf;subst hf;exact⟨rfl,by kernel_rfl⟩
  | i+2,hf=>simp at hf) he
 obtain⟨n0,d0,q0,c0,a0,b0,t0⟩:=hs 0 _ rfl;obtain⟨n1,d1,q1,c1,a1,b1,t1⟩:=hs 1 _ rfl;obtain⟨z0,e0,f0,w0⟩:=DataW.trod_int (k:=.u64) (by kernel_rfl) t0;obtain⟨z1,e1,f1,w1⟩:=DataW.trod_int (k:=.u64) (by kernel_rfl) t1;simp only[List.cons.injEq,and_true]at e0 e1;simp only[Prod.mk.injEq]at f0 f1;obtain⟨rfl,_⟩:=f0;obtain⟨rfl,_⟩:=f1;subst e0;subst e1
 simp only[List.getElem?_cons_zero,List.getElem?_cons_succ,Option.some.injEq,DataW.lit.injEq,Lit.int.injEq,true_and]at a0 a1;subst a0;subst a1
 simp only[List.getElem?_take,List.getElem?_drop]at b0 b1
 have r0:((x.1:Nat):Int)<18446744073709551616:=by
  simp only[Lit.wf,Bool.and_eq_true,decide_eq_true_eq]at w0;have hmx:IntKind.u64.max=18446744073709551615:=by decide
  omega
 have r1:((x.2:Nat):Int)<18446744073709551616:=by
  simp only[Lit.wf,Bool.and_eq_true,decide_eq_true_eq]at w1;have hmx:IntKind.u64.max=18446744073709551615:=by decide
  omega
 refine⟨x.1,x.2,by omega,by omega,?_,?_⟩
 ·rw[World.var?_cell hg hvar (i*2),←Array.getElem?_toList]
  simpa using b0
 ·rw[World.var?_cell hg hvar (i*2+1),←Array.getElem?_toList]
  simpa using b1
theorem read_normal {x:Nat}(h1:4503599627370496≤x)(h2:x<9218868437227405312):∃s m j,FloatKind.f64.format.read x=.number s m j∧m≠0:=by
 have e1:FloatKind.f64.format=Ieee.double:=rfl;have e2:Ieee.double.signWeight=9223372036854775808:=by decide
 have e3:Ieee.double.infRung=9218868437227405312:=by decide
 have e4:Ieee.double.binade=4503599627370496:=by decide
 have hm:x%9223372036854775808=x:=Nat.mod_eq_of_lt (by omega);rw[e1];unfold Ieee.Format.read;simp only[e2,e3,e4,hm];rw[if_neg (by omega),if_pos h2];exact⟨_,_,_,rfl,by omega⟩
def p64L:List Nat:=[4607182418800017408,4621819117588971520,4636737291354636288,4652007308841189376,4666723172467343360,4681608360884174848,4696837146684686336,4711630319722168320,4726483295884279808,4741671816366391296,4756540486875873280,4771362005757984768,4786511204640096256,4801453603149578240,4816244402031689728,4831355200913801216,4846369599423283200,4861130398305394688,4876203697187506176,4891288408196988160,4906019910204099648,4921056587992461136,4936209963552724370]
theorem p64L_ok:(p64L.all fun x=>decide (4503599627370496≤x)&&decide (x<9218868437227405312))=true:=by decide
theorem p64_of {W:World}(h:VarReads Tryz.prog W "internal/strconv.float64pow10" Rows.laid_internal_strconv_float64pow10):∃fb fo fc,W.cell? ⟨20,0,none⟩=some (.slice (some ⟨fb,fo,none⟩) 23 fc)∧∀i:Nat,i<23→∃x:Nat,W.cell? ⟨fb,fo+i,none⟩=some (.float .f64 x)∧4503599627370496≤x∧x<9218868437227405312:=by
 have e:(Rows.laid_internal_strconv_float64pow10:DataW Unit)=.slice (p64L.map fun x=>.lit (.float .f64 x)) []:=by kernel_rfl
 rw[e]at h;obtain⟨R,o,cap,h1,h2⟩:=slice_of_reads (g:=20) (t:=275) (e:=22) (sz:=1) (by kernel_rfl) (by kernel_rfl) Tryz.underlying275 (by kernel_rfl) (by omega) (by simp[p64L]) h;refine⟨R,o,cap,by simpa[p64L] using h1,fun i hi=>?_⟩;have hl:p64L.length=23:=by decide
 obtain⟨x,hx⟩:∃x,p64L[i]?=some x:=⟨_,List.getElem?_eq_getElem (by omega)⟩;obtain⟨n,cs,q,h3,h4,h5⟩:=h2 i (.lit (.float .f64 x)) (by simp[hx]);obtain⟨z,rfl,hz⟩:=trod_float Tryz.underlying22 h3;simp only[DataW.lit.injEq,Lit.float.injEq,true_and]at hz;subst hz;have h6:=h5 0 (by omega);have h7:=List.all_eq_true.1 p64L_ok x (List.mem_of_getElem? hx);simp only[Bool.and_eq_true,decide_eq_true_eq]at h7;exact⟨x,by simpa using h6,h7.1,h7.2⟩
theorem cheats_ok:((List.range 60).all fun k=>Go.Pinned.cheatRows[k+1]?==some (lcD (k+1),digF 60 (5^(k+1))))=true:=by kernel_rfl
theorem cheats_of {W:World}(h:VarReads Tryz.prog W "internal/strconv.leftcheats" Go.Pinned.leftcheats):∀k,1≤k→k≤60→LcAt W k:=by
 obtain⟨R,o,cap,h1,h2⟩:=slice_of_reads (g:=22) (t:=288) (e:=287) (sz:=2) (by kernel_rfl) (by kernel_rfl) Tryz.underlying288 (by kernel_rfl) (by omega) (by simp[Go.Pinned.cheatRows]) h;intro k hk1 hk2;have hl:Go.Pinned.cheatRows.length=61:=by kernel_rfl
 rw[List.length_map,hl]at h1;have hk:=List.all_eq_true.1 cheats_ok (k-1) (List.mem_range.2 (by omega));rw[show k-1+1=k by omega]at hk;have hk:=eq_of_beq hk;obtain⟨n,cs,q,h3,h4,h5⟩:=h2 k _ (by rw[List.getElem?_map,hk];rfl)
 have hs:=struct_cells (t:=287) (by exact Tryz.underlying287) (by kernel_rfl) (fun i f hf=>by
  match i,hf with
  | 0,hf=>simp at hf;subst hf;exact⟨rfl,by kernel_rfl⟩
  | 1,hf=>simp at hf;subst hf;exact⟨rfl,by kernel_rfl⟩
  | i+2,hf=>simp at hf) h3
 obtain⟨n0,d0,q0,c0,a0,b0,t0⟩:=hs 0 _ rfl;obtain⟨n1,d1,q1,c1,a1,b1,t1⟩:=hs 1 _ rfl;obtain⟨z0,e0,f0,_⟩:=DataW.trod_int (k:=.i64) (by kernel_rfl) t0;obtain⟨z1,e1,f1,_⟩:=DataW.trod_string (by kernel_rfl) t1;simp only[List.cons.injEq,and_true]at e0 e1;simp only[Prod.mk.injEq]at f0 f1;obtain⟨rfl,_⟩:=f0;obtain⟨rfl,_⟩:=f1;subst e0;subst e1
 simp only[List.getElem?_cons_zero,List.getElem?_cons_succ,Option.some.injEq,DataW.lit.injEq,Lit.int.injEq,Lit.string.injEq,true_and]at a0 a1;subst a0;refine⟨R,o,cap,h1,?_,?_⟩
 ·have:=h5 0 (by omega)
  rw[b0]at this;simpa using this
 ·have:=h5 1 (by omega)
  rw[b1]at this;rw[this];unfold lcS;rw[a1]
theorem finit_of {W:World}(h1:VarReads Tryz.prog W "internal/strconv.optimize" Rows.laid_internal_strconv_optimize)(h2:VarReads Tryz.prog W "internal/strconv.float64info" Rows.laid_internal_strconv_float64info)(h3:VarReads Tryz.prog W "internal/strconv.powtab" Rows.laid_internal_strconv_powtab)(h4:VarReads Tryz.prog W "internal/strconv.float64pow10" Rows.laid_internal_strconv_float64pow10)(h5:VarReads Tryz.prog W "internal/strconv.leftcheats" Go.Pinned.leftcheats)(h6:VarReads Tryz.prog W "internal/strconv.pow10Tab" Go.Pinned.pow10Tab):FInit3 W:=by
 obtain⟨i0,i1,i2⟩:=info_of h2;obtain⟨fb,fo,fc,f0,f1⟩:=p64_of h4;refine { opt:=opt_of h1,f0:=i0,f1:=i1,f2:=i2,pt:=powtab_of h3,lc:=cheats_of h5,p10:=pow10_of h6,p64:=⟨fb,fo,fc,f0,fun i hi=>?_⟩,nz:=?_ }
 ·obtain⟨x,hx,_⟩:=f1 i hi
  exact⟨x,hx⟩
 ·intro fb' fo' i x hc hi hx
  obtain⟨fc',hc⟩:=hc;rw[f0]at hc;injection hc with hc;injection hc with hc1 hc2 hc3;injection hc1 with hc1;injection hc1 with e1 e2
  subst e1;subst e2
  obtain⟨y,hy,r1,r2⟩:=f1 i hi;rw[hx]at hy;injection hy with hy;injection hy with hy1 hy2
  subst hy2;exact read_normal r1 r2
theorem laid_suffix {P:Program}{w:World} : ∀(l1 l2:List (String×DataW Unit)) (ps:List MemPlace),DataW.LaidVars P w (l1++l2) ps→∃q1 q2,ps=q1++q2∧DataW.LaidVars P w l2 q2
 | [],l2,ps,h=>⟨[],ps,rfl,h⟩
 | (n,d)::l1,l2,ps,h=>by
  obtain⟨g,t,cs,fuel,p,q,h1,h2,h3,h4,h5,rfl⟩:=h;obtain⟨q1,q2,rfl,h6⟩:=laid_suffix l1 l2 q h5;exact⟨MemPlace.row ⟨g,0,none⟩ cs.size++p++q1,q2,by simp,h6⟩
theorem star_errorString : "*" ++ "errors.errorString" = "*errors.errorString" := by decide
theorem row_errorString (u:TypeId)(h:Tryz.prog.typeName? 3 u=some "*errors.errorString"):u=233 :=
 typeName_ptr_named (nm := "errors.errorString") (by rw[star_errorString];kernel_rfl) (by kernel_rfl) (by decide) u (by rw[star_errorString];exact h)
theorem err_of {W:World}{name:String}{g:Nat}{text:List UInt8}{t:TypeId}{cs:Array Value}{fuel:Nat}{p:List MemPlace}(ht:t=92)(hvar:W.var? Tryz.prog name=some cs)(hg:Tryz.prog.globalNamed name=some g)
  (hd:DataW.trod (fun _=>()) Tryz.prog W 0 (fun _=>true) false fuel t cs.toList=some (.iface "*errors.errorString" (.ptr (.agg [.lit (.string text)])),p))(hok:∀u v,W.cell? ⟨g,0,none⟩=some (.iface u v)→Value.okWide Tryz.prog W .any 0 u v) :
  ∃a s,W.cell? ⟨g,0,none⟩=some (.iface 233 (.pointer (some a)))∧W.cell? a=some (.string s)∧p=MemPlace.row a 1:=by
 subst ht
 obtain⟨a,s,h1,h2,h3,h4,h5⟩:=errorString_of_trod (P:=Tryz.prog) (ti:=92) (tp:=233) (te:=235) (ts:=9) Tryz.underlying92 (fun u hu=>row_errorString u hu) Tryz.underlying233 (by exact Tryz.underlying235) rfl rfl Tryz.underlying9 (by kernel_rfl) (by kernel_rfl) hd
  (fun u v hc=>hok u v (by rw[World.var?_cell hg hvar 0,←Array.getElem?_toList,hc];rfl))
 exact⟨a,s,by rw[World.var?_cell hg hvar 0,←Array.getElem?_toList,h1];rfl,h2,h5⟩
theorem cells_size {P:Program}{W:World}{name:String}{g:Nat}{cs:Array Value}{v:Value}(hvar:W.var? P name=some cs)(hg:P.globalNamed name=some g)(h:W.cell? ⟨g,0,none⟩=some v):0<cs.size:=by
 rw[World.var?_cell hg hvar 0]at h;exact(xgl h)
theorem errs_of {W:World}{l1 l2:List (String×DataW Unit)}(h:laidMet Tryz.prog (l1++("strconv.ErrRange", Rows.laid_strconv_ErrRange)::("strconv.ErrSyntax", Rows.laid_strconv_ErrSyntax)::l2) W):∃a b ca cb,ErrAB W a b ca cb:=by
 obtain⟨ps,hv,hnd,hrow⟩:=h;obtain⟨q1,q2,rfl,hv2⟩:=laid_suffix l1 _ ps hv;obtain⟨g,t,cs,fuel,p,q,hg,hty,hvar,hd,hv3,rfl⟩:=hv2;obtain⟨g',t',cs',fuel',p',q',hg',hty',hvar',hd',_,rfl⟩:=hv3;obtain rfl:=Option.some.inj ((show Tryz.prog.globalNamed "strconv.ErrRange" = some 3 by kernel_rfl).symm.trans hg);obtain rfl:=Option.some.inj ((show Tryz.prog.globalNamed "strconv.ErrSyntax" = some 2 by kernel_rfl).symm.trans hg');obtain rfl:=Option.some.inj ((show (Tryz.prog.globals[3]?).map (·.type)=some 92 by kernel_rfl).symm.trans hty);obtain rfl:=Option.some.inj ((show (Tryz.prog.globals[2]?).map (·.type)=some 92 by kernel_rfl).symm.trans hty');have in1:∀x∈MemPlace.row ⟨3,0,none⟩ cs.size++p++(MemPlace.row ⟨2,0,none⟩ cs'.size++p'++q'),x∈q1++(MemPlace.row ⟨3,0,none⟩ cs.size++p++(MemPlace.row ⟨2,0,none⟩ cs'.size++p'++q')):=fun x hx=>List.mem_append_right _ hx
 have ok3:∀u v,W.cell? ⟨3,0,none⟩=some (.iface u v)→Value.okWide Tryz.prog W .any 0 u v:=fun u v hc=>by
  have hs:=cells_size hvar hg hc;exact(hrow 3 0 (in1 _ (List.mem_append_left _ (List.mem_append_left _ (MemPlace.mem_row.2 ⟨0,hs,rfl⟩))))).2 u v hc
 have ok2:∀u v,W.cell? ⟨2,0,none⟩=some (.iface u v)→Value.okWide Tryz.prog W .any 0 u v:=fun u v hc=>by
  have hs:=cells_size hvar' hg' hc;exact(hrow 2 0 (in1 _ (List.mem_append_right _ (List.mem_append_left _ (List.mem_append_left _ (MemPlace.mem_row.2 ⟨0,hs,rfl⟩)))))).2 u v hc
 obtain⟨b,s,h1,h2,rfl⟩:=err_of rfl hvar hg hd ok3;obtain⟨a,s',h1',h2',rfl⟩:=err_of rfl hvar' hg' hd' ok2;have mb:MemPlace.cell b.block b.off∈MemPlace.row b 1:=MemPlace.mem_row.2 ⟨0,by omega,rfl⟩;have ma:MemPlace.cell a.block a.off∈MemPlace.row a 1:=MemPlace.mem_row.2 ⟨0,by omega,rfl⟩;have hb3:=(hrow b.block b.off (in1 _ (List.mem_append_left _ (List.mem_append_right _ mb)))).1;have ha3:=(hrow a.block a.off (in1 _ (List.mem_append_right _ (List.mem_append_left _ (List.mem_append_right _ ma))))).1;obtain⟨cb,tb,hcb⟩:=hb3;obtain⟨ca,ta,hca⟩:=ha3;refine⟨a,b,ca,cb,{ syn:=h1',ran:=h1,ne:=?_,ha:=⟨ta,hca⟩,hb:=⟨tb,hcb⟩ }⟩;intro e;subst e;have h1:=(List.nodup_append.1 hnd).2.1;have h2:=(List.nodup_append.1 h1).2.2;exact h2 _ (List.mem_append_right _ mb) _ (List.mem_append_left _ (List.mem_append_right _ ma)) rfl
end Go.Proofs.YtfkecmlmnhbmoaaGreatDoor
namespace Go.Proofs.YtfkecmlmnhbmoaaGreatDoor
open Go Go.RowKit Go.Maps
theorem lv_kids (x:PV):lvV x=lvVs (kidsV x)+1:=by cases x<;>simp[lvV,kidsV,lvVs]
theorem sz_kids (x:PV):szV x=szVs (kidsV x)+1:=by cases x<;>simp[szV,kidsV,szVs]
theorem levels_any:∀(n:Nat),n≤1000000→∀(x:PV) (S:Nat→Prop) (w:World) (ks vs:Value),lvV x≤n→IsV S w x ks vs→(∀k,S k→k<w.heap.size) →
  Calls Tryz.prog 20 #[valOf x ks vs] w fun e w'=>e=.returned (.int .i64 (lvV x:Nat))∧w.grownBy w' none:=by
 intro n
 induction n with
 | zero=>intro _ x S w ks vs hl;have:=lvV_pos x;omega
 | succ n ih =>
  intro hn x S w ks vs hl hI hS;replace ih:=ih (by omega);have hlk:=lv_kids x;obtain⟨ko,kc,vo,vc,rfl,rfl,-,hmx,-,hv⟩:=hI.view;unfold valOf;rw[hlk];obtain⟨kids,hk⟩:∃l,l=kidsV x:=⟨_,rfl⟩;rw[←hk]at hv hmx hlk⊢;obtain⟨N,hN⟩:∃N,N=kids.length:=⟨_,rfl⟩;rw[←hN]at hv hmx⊢;generalize pvKind x=k1;generalize pvInt x=k2;generalize pvGen x=k3;generalize pvReal x=k4;generalize (⟨(pvText x).toArray⟩:ByteArray)=k5;generalize (keysV x).length=kn;have hM:N≤9223372036854775807:=by unfold maxLen at hmx;omega
  have hall:∀p∈kids,lvV p≤n:=fun p hp=>by have:=lvV_mem hp;omega
  have hL:lvVs kids≤1000000:=by omega
  obtain⟨Hv,HN,HS,Hall,Hih,HL⟩:=xh6 hv hN hS hall ih hL;clear hv hN hS hmx hk hI hall ih hlk hl hL hn x;go_enter Tryz.func20,Tryz.ntmps20;go_wp2_with fail
  go_loopg [3,9] N (fun g t3 t9 wr=>∃i,t9=.int .i64 (i:Nat)∧t3=.int .i64 (lvVs (kids.take i):Nat)∧g=N-i∧i≤N∧w.grownBy wr none)
  case atStart=>exact⟨0,rfl,rfl,rfl,Nat.zero_le _,gr_alloc (xgr w none) _⟩
  case round =>
   obtain⟨i,rfl,rfl,hg,hi,hgw⟩:=hrel;obtain⟨Hgw,Hg⟩:=xh2 hgw hg;clear hgw hg
   by_cases hiN:i<N
   ·rcases Hv.out with h0|⟨b0,i0,rfl,hSb,hcells⟩
    ·omega
    obtain⟨p,hp⟩:∃p,kids[i]?=some p:=⟨_,List.getElem?_eq_getElem (by rw[←HN.out];exact hiN)⟩;obtain⟨ksi,vsi,hIi,hci⟩:=hcells i p hp;obtain⟨⟨kso,ksn,ksc,rfl⟩,⟨vso,vsn,vsc,rfl⟩⟩:=hIi.slices;have hblk:=Hgw.out.block b0 (HS.out b0 hSb) (by simp);have hcce:∀m u,(c7 p _ _)[m]?=some u→World.cell? wr ⟨b0,i0+i*7+m,none⟩=some u:=fun m u hm=>(World.cell?_of_block hblk).trans (hci m u hm);have e0:World.cell? wr ⟨b0,i0+i*7,none⟩=_:=hcce 0 _ rfl;have e1:=hcce 1 _ rfl;have e2:=hcce 2 _ rfl;have e3:=hcce 3 _ rfl;have e4:=hcce 4 _ rfl;have e5:=hcce 5 _ rfl;have e6:=hcce 6 _ rfl;clear hcce;have htk:=lvVs_take hp;have hcall:=fun (w2:World) (hg2:wr.grownBy w2 none)=>Hih.out p S w2 _ _ (Hall.out p (List.mem_of_getElem? hp)) (IsV.keep (S':=S) (fun k hk=>⟨hk,(Hgw.out.trans hg2).block k (HS.out k hk) (by simp)⟩) _ _ _ hIi) (fun k hk=>Nat.lt_of_lt_of_le (HS.out k hk) (Hgw.out.trans hg2).size);unfold valOf at hcall;obtain⟨c,hc⟩:∃c,c=lvVs (kids.take i):=⟨_,rfl⟩;obtain⟨lp,hlp⟩:∃c,c=lvV p:=⟨_,rfl⟩;rw[←hc,←hlp]at htk;rw[←hc];rw[←hlp]at hcall;have hnm:(i:Int)<N:=by omega
    have hwi:IntKind.i64.wrap ((i:Int)+1)=(i:Int)+1:=IntWalk.i64_in _ (by omega);generalize pvKind p=p1 at *;generalize pvInt p=p2 at *;generalize pvGen p=p3 at *;generalize pvReal p=p4 at *;generalize (⟨(pvText p).toArray⟩:ByteArray)=p5 at *;obtain⟨Hcall,Htk⟩:=xh2 hcall htk;clear hcall hIi hci hp hcells hblk htk hc hlp;go_wp2_with fail
    refine(Hcall.out _ (gr_alloc (xgr _ _) _)).mono ?_;rintro e w2⟨rfl,hg2⟩;have Hg2:=xhd (Hgw.out.trans ((gr_alloc (xgr _ _) _).trans hg2));clear hg2;go_wp2_with fail
    go_roundg (N-(i+1))
    case measure=>rw[Hg.out];omega
    case rel=>exact⟨i+1,by simp,by rw[Htk.out];simp;omega,rfl,by omega,Hg2.out⟩
   ·obtain rfl:i=N:=by omega
    have hL:=HL.out;have htk:kids.take i=kids:=List.take_of_length_le (by have:=HN.out;omega);rw[htk];have hwl:IntKind.i64.wrap ((lvVs kids:Int)+1)=(lvVs kids:Int)+1:=IntWalk.i64_in _ (by omega);go_wp2_with fail
    go_ret;exact⟨rfl,Hgw.out⟩
def NdPost (x:PV)(most:Int)(e:Ending):Prop:=∃r:Int,e=.returned (.int .i64 r)∧1≤r∧(r≤1∨r≤most+1)∧(r≤most→r=szV x)
theorem nodes_any:∀(n:Nat),∀(x:PV) (S:Nat→Prop) (w:World) (ks vs:Value) (most:Int),lvV x≤n→-1000000≤most→most≤1000000→IsV S w x ks vs→(∀k,S k→k<w.heap.size) →
  Calls Tryz.prog 19 #[valOf x ks vs,.int .i64 most] w fun e w'=>NdPost x most e∧w.grownBy w' none:=by
 intro n
 induction n with
 | zero=>intro x S w ks vs most hl;have:=lvV_pos x;omega
 | succ n ih =>
  intro x S w ks vs most hl hm0 hm1 hI hS;have hlk:=lv_kids x;have hsk:=sz_kids x;obtain⟨ko,kc,vo,vc,rfl,rfl,-,hmx,-,hv⟩:=hI.view;unfold valOf NdPost;rw[hsk];obtain⟨kids,hk⟩:∃l,l=kidsV x:=⟨_,rfl⟩;rw[←hk]at hv hmx hlk⊢;obtain⟨N,hN⟩:∃N,N=kids.length:=⟨_,rfl⟩;rw[←hN]at hv hmx⊢;generalize pvKind x=k1;generalize pvInt x=k2;generalize pvGen x=k3;generalize pvReal x=k4;generalize (⟨(pvText x).toArray⟩:ByteArray)=k5;generalize (keysV x).length=kn;have hM:N≤9223372036854775807:=by unfold maxLen at hmx;omega
  have hall:∀p∈kids,lvV p≤n:=fun p hp=>by have:=lvV_mem hp;omega
  obtain⟨Hv,HN,HS,Hall,Hih⟩:=xh5 hv hN hS hall ih;clear hv hN hS hmx hk hI hall ih hlk hl hsk x;have hbox:=heap_alloc_new w (.cells #[.int .i64 k1,.int .i64 k2,.int .i64 k3,.float .f64 k4,.string k5,.slice ko kn kc,.slice vo N vc] 30);have hg0:w.grownBy (w.alloc (.cells #[.int .i64 k1,.int .i64 k2,.int .i64 k3,.float .f64 k4,.string k5,.slice ko kn kc,.slice vo N vc] 30)) none:=gr_alloc (xgr w none) _;obtain⟨W,hW⟩:∃W,W=w.alloc (.cells #[.int .i64 k1,.int .i64 k2,.int .i64 k3,.float .f64 k4,.string k5,.slice ko kn kc,.slice vo N vc] 30):=⟨_,rfl⟩;rw[←hW]at hbox hg0;obtain⟨Hbox,Hg0⟩:=xh2 hbox hg0;clear hbox hg0;go_enter Tryz.func19,Tryz.ntmps19;go_wp2_with fail
  rw[←hW];clear hW
  go_loopg [5,6] N (fun g t5 t6 wr=>∃(i:Nat) (c:Int),t6=.int .i64 (i:Nat)∧t5=.int .i64 c∧g=N-i∧i≤N∧1≤c∧(c≤1∨c≤most+1)∧(c≤most→c=1+szVs (kids.take i))∧W.grownBy wr none)
  case atStart=>exact⟨0,1,rfl,rfl,rfl,Nat.zero_le _,by omega,.inl (by omega),fun _=>by simp[szVs],xgr _ _⟩
  case round =>
   obtain⟨i,c,rfl,rfl,hg,hi,hc1,hc2,hc3,hgw⟩:=hrel;have q0:=(hgw.block _ (xgl Hbox.out) (by simp)).trans Hbox.out;obtain⟨x0,x1,x2,x3,x4,x5,x6,xf⟩:=cells7 q0;have Hgw:=xhd (Hg0.out.trans hgw);obtain⟨HgW,Hg,Hc3,Hc2⟩:=xh4 hgw hg hc3 hc2;clear hgw hg q0 hc3
   by_cases hiN:i<N
   ·have hnm:(i:Int)<N:=by omega
    by_cases hcm:c≤most
    ·rcases Hv.out with h0|⟨b0,i0,rfl,hSb,hcells⟩
     ·omega
     obtain⟨p,hp⟩:∃p,kids[i]?=some p:=⟨_,List.getElem?_eq_getElem (by rw[←HN.out];exact hiN)⟩;obtain⟨ksi,vsi,hIi,hci⟩:=hcells i p hp;obtain⟨⟨kso,ksn,ksc,rfl⟩,⟨vso,vsn,vsc,rfl⟩⟩:=hIi.slices;have hblk:=Hgw.out.block b0 (HS.out b0 hSb) (by simp);have hcce:∀m u,(c7 p _ _)[m]?=some u→World.cell? wr ⟨b0,i0+i*7+m,none⟩=some u:=fun m u hm=>(World.cell?_of_block hblk).trans (hci m u hm);have e0:World.cell? wr ⟨b0,i0+i*7,none⟩=_:=hcce 0 _ rfl;have e1:=hcce 1 _ rfl;have e2:=hcce 2 _ rfl;have e3:=hcce 3 _ rfl;have e4:=hcce 4 _ rfl;have e5:=hcce 5 _ rfl;have e6:=hcce 6 _ rfl;clear hcce;have htk:=szVs_take hp;have hcall:=fun (w2:World) (hg2:wr.grownBy w2 none)=>Hih.out p S w2 _ _ (most-c) (Hall.out p (List.mem_of_getElem? hp)) (by omega) (by omega) (IsV.keep (S':=S) (fun k hk=>⟨hk,(Hgw.out.trans hg2).block k (HS.out k hk) (by simp)⟩) _ _ _ hIi) (fun k hk=>Nat.lt_of_lt_of_le (HS.out k hk) (Hgw.out.trans hg2).size);unfold valOf NdPost at hcall;obtain⟨sp,hsp⟩:∃c,c=szV p:=⟨_,rfl⟩;rw[←hsp]at hcall htk;have hwi:IntKind.i64.wrap ((i:Int)+1)=(i:Int)+1:=IntWalk.i64_in _ (by omega);have hwm:IntKind.i64.wrap (most-c)=most-c:=IntWalk.i64_in _ (by omega);generalize pvKind p=p1 at *;generalize pvInt p=p2 at *;generalize pvGen p=p3 at *;generalize pvReal p=p4 at *;generalize (⟨(pvText p).toArray⟩:ByteArray)=p5 at *;obtain⟨Hcall,Htk⟩:=xh2 hcall htk;clear hcall hIi hci hp hcells hblk htk hsp hc2;go_wp2_with fail
     refine(Hcall.out _ (xgr _ _)).mono ?_;rintro e w2⟨⟨r,rfl,hr1,hr2,hr3⟩,hg2⟩;have Hg2:=xhd (HgW.out.trans hg2);obtain⟨Hr2,Hr3⟩:=xh2 hr2 hr3;have hwr:IntKind.i64.wrap (c+r)=c+r:=IntWalk.i64_in _ (by omega);clear hg2 hr2 hr3;go_wp2_with fail
     go_roundg (N-(i+1))
     case measure=>rw[Hg.out];omega
     case rel=>exact⟨i+1,c+r,by simp,rfl,rfl,by omega,by omega,.inr (by have:=Hr2.out;omega),fun h=>by have:=Hr3.out (by omega);have:=Hc3.out (by omega);have:=Htk.out;omega,Hg2.out⟩
    ·clear hc2
     go_wp2_with fail
     go_ret;exact⟨⟨c,rfl,hc1,Hc2.out,fun h=>absurd h (by omega)⟩,Hgw.out⟩
   ·obtain rfl:i=N:=by omega
    clear hc2;go_wp2_with fail
    go_ret;refine⟨⟨c,rfl,hc1,Hc2.out,fun h=>?_⟩,Hgw.out⟩;have:=Hc3.out h;rw[List.take_of_length_le (by have:=HN.out;omega)]at this;omega
def MdPost (Z L:Nat)(e:Ending):Prop:=∃b:Bool,e=.returned (.bool b)∧(b=true→Z≤5000∧L≤40)
theorem cells7_set6 {w:World}{b:Nat}{a0 a1 a2 a3 a4 a5 a6:Value}{t:TypeId}(h:w.heap[b]?=some (.cells #[a0,a1,a2,a3,a4,a5,a6] t (0,0)))(u:Value):(w.setCell ⟨b,6,none⟩ u).heap[b]?=some (.cells #[a0,a1,a2,a3,a4,a5,u] t (0,0)):=by
 simp[World.setCell,Array.getElem?_modify,h]
def KeyAt (S:Nat→Prop)(w:World)(ko:Option Addr)(keys:List By):Prop:=∀(j:Nat) k,keys[j]?=some k→∃b i,ko=some ⟨b,i,none⟩∧S b∧w.cell? ⟨b,i+j,none⟩=some (.string (bs k))
def KidAt (S:Nat→Prop)(w:World)(vo:Option Addr)(kids:List OB):Prop:=∀(j:Nat) p,kids[j]?=some p→∃b i,vo=some ⟨b,i,none⟩∧S b∧∃kso ksc vso vsc,IsB S w p (.slice kso p.keys.length ksc) (.slice vso p.kids.length vsc) ∧
 ∀(m:Nat) u,(b7 p (.slice kso p.keys.length ksc) (.slice vso p.kids.length vsc))[m]?=some u→w.cell? ⟨b,i+j*7+m,none⟩=some u
theorem IsB.view {S:Nat→Prop}{w:World}{x:OB}{ks vs:Value}(h:IsB S w x ks vs):∃ko kc vo vc,ks=.slice ko x.keys.length kc∧vs=.slice vo x.kids.length vc∧x.keys.length≤maxLen∧x.kids.length≤maxLen∧x.keys.length≤kc∧x.kids.length≤vc∧KeyAt S w ko x.keys∧KidAt S w vo x.kids:=by
 have hk:=h.key;have hv:=h.kid
 cases x
 simp only[IsB]at h;obtain⟨⟨_,o,c,rfl,h1,h2,_⟩,cells,⟨_,o2,c2,rfl,h3,h4,_⟩,_⟩:=h;simp only[OB.keys,OB.kids]at *;refine⟨_,_,_,_,rfl,rfl,Nat.le_trans h1 h2,Nat.le_trans h3 h4,h1,h3,?_,?_⟩
 ·intro j k hj
  rcases hk with rfl|⟨b,i,⟨n,c',e⟩,h6,h7⟩
  ·simp at hj
  ·injection e with e1 e2 e3
   exact⟨b,i,e1,h6,h7 j k hj⟩
 ·intro j p hj
  rcases hv with rfl|⟨b,i,⟨n,c',e⟩,h6,h7⟩
  ·simp at hj
  ·injection e with e1 e2 e3
   obtain⟨ks',vs',h8,h9⟩:=h7 j p hj;obtain⟨a1,a2,a3,a4,rfl,rfl,_⟩:=h8.slices;exact⟨b,i,e1,h6,a1,a2,a3,a4,h8,fun m u hm=>by rw[Nat.add_assoc];exact h9 m u hm⟩
theorem KeyAt.keep {S S':Nat→Prop}{w w':World}(hS:∀k,S k→S' k∧w'.heap[k]?=w.heap[k]?){ko:Option Addr}{keys:List By}(h:KeyAt S w ko keys):KeyAt S' w' ko keys:=fun j k hj=>by
 obtain⟨b,i,h1,h2,h3⟩:=h j k hj;exact⟨b,i,h1,(hS b h2).1,(World.cell?_of_block (hS b h2).2).trans h3⟩
theorem KidAt.keep {S S':Nat→Prop}{w w':World}(hS:∀k,S k→S' k∧w'.heap[k]?=w.heap[k]?){ko:Option Addr}{kids:List OB}(h:KidAt S w ko kids):KidAt S' w' ko kids:=fun j p hj=>by
 obtain⟨b,i,h1,h2,a1,a2,a3,a4,h3,h4⟩:=h j p hj;exact⟨b,i,h1,(hS b h2).1,a1,a2,a3,a4,IsB.keep hS _ _ _ h3,fun m u hm=>(World.cell?_of_block (hS b h2).2).trans (h4 m u hm)⟩
def ksum (l:List By):Nat:=(l.map fun k=>k.length/16).sum
theorem ksum_take:∀ {l:List By} {i:Nat} {k:By},l[i]?=some k→ksum (l.take (i+1))=ksum (l.take i)+k.length/16
 | [],i,p,h=>by simp at h
 | y::ys,0,p,h=>by simp at h;subst h;simp[ksum]
 | y::ys,i+1,p,h=>by
  have:=ksum_take (l:=ys) (i:=i) (k:=p) (by simpa using h);simp only[ksum,List.take_succ_cons,List.map_cons,List.sum_cons]at this⊢;omega
theorem fwB_eq (o:OB):fwB o=1+o.t.length/16+ksum o.keys+fwBs o.kids:=by cases o;simp only[fwB,OB.t,OB.keys,OB.kids,ksum]
def Md (x y:Int):Prop:=∃k:Int,x=y+k*18446744073709551616
theorem wrap_md (x:Int):Md (IntKind.i64.wrap x) x∧-9223372036854775808≤IntKind.i64.wrap x∧IntKind.i64.wrap x≤9223372036854775807:=by
 rw[IntKind.wrap_i64];exact⟨⟨-((x+9223372036854775808)/18446744073709551616),by omega⟩,by omega,by omega⟩
theorem Md.refl (x:Int):Md x x:=⟨0,by omega⟩
theorem Md.step {x y z a b:Int}(h1:Md x (y-a))(h2:Md y (z-b)):Md x (z-(b+a)):=by
 obtain⟨k,h1⟩:=h1;obtain⟨j,h2⟩:=h2;exact⟨k+j,by omega⟩
theorem Md.eq {x y a:Int}(h:Md x (y-a)){b:Int}(e:a=b):Md x (y-b):=by rw[←e];exact h
def FwPost (w w':World)(c:Nat)(L:Int)(F:Nat)(e:Ending):Prop:=∃(b:Bool) (L':Int),e=.returned (.bool b)∧w'.heap[c]?=some (.cells #[.int .i64 L'] 3 (0,0))∧w.grownBy w' (some c)∧(b=true→Md L' (L-(F:Int))∧0≤L'∧L'≤9223372036854775807)
theorem few_all : ∀(n : Nat) (o : OB), lvB o ≤ n → ∀(S : Nat → Prop) (w : World) (ks vs : Value) (c : Nat) (L : Int), wfB o → IsB S w o ks vs → (∀ k, S k → k < w.heap.size ∧ k ≠ c) → w.heap[c]? = some (.cells #[.int .i64 L] 3 (0, 0)) → -9223372036854775808 ≤ L → L ≤ 9223372036854775807 →
  Calls Tryz.prog 17 #[obV o ks vs,.pointer (some ⟨c,0,none⟩)] w fun e w'=>FwPost w w' c L (fwB o) e:=by
 intro n
 induction n with
 | zero=>intro o hl;cases o;simp only[lvB]at hl;omega
 | succ n ih =>
  intro o hlv S w ks vs c L hwf hI hS hc hL0 hL1;obtain⟨ko,kc,vo,vc,rfl,rfl,hm1,hm2,hm3,hm4,hK,hV⟩:=hI.view;have hfw:=fwB_eq o;obtain⟨-,hzl,hkl,hkk,hvl,hwk⟩:=wf_all hwf;have hkid:∀p∈o.kids,lvB p≤n∧wfB p:=fun p hp=>⟨by have:=lv_kid hp;omega,hwk p hp⟩;unfold obV;rw[hfw];obtain⟨keys,hkeys⟩:∃l,l=o.keys:=⟨_,rfl⟩;obtain⟨kids,hkids⟩:∃l,l=o.kids:=⟨_,rfl⟩;rw[←hkeys]at hK hkl hkk hm1 hm3⊢;rw[←hkids]at hV hvl hm2 hm4 hkid⊢;have hzs:(bs o.t).size=o.t.length:=bs_size _;rw[←hzs]at hzl⊢;generalize bs o.t=z at *;generalize o.k=k1;generalize o.i=k2;generalize o.g=k3;generalize o.r=k4;obtain⟨KN,hKN⟩:∃N,N=keys.length:=⟨_,rfl⟩;obtain⟨VN,hVN⟩:∃N,N=kids.length:=⟨_,rfl⟩;rw[←hKN]at hkl hm1 hm3⊢;rw[←hVN]at hvl hm2 hm4⊢;have hKN2:KN≤140737488351232:=by omega
  have hVN2:VN≤140737488351232:=by omega
  have hg0:∀o,w.grownBy (w.alloc o) (some c):=fun o=>gr_alloc (xgr w _) _;have hlt:=(xgl hc);have hne:¬c=w.heap.size:=by omega
  have c0:w.cell? ⟨c,0,none⟩=some (.int .i64 L):=by simp[World.cell?,hc]
  have f0:w.frozen? ⟨c,0,none⟩=false:=by simp[World.frozen?,hc]
  have q0:(z.size:Int).tdiv 16=((z.size/16:Nat):Int):=by rw[Int.tdiv_eq_ediv_of_nonneg (by omega)];rfl
  obtain⟨m,hm⟩:∃m,m=z.size/16:=⟨_,rfl⟩;have hml:m≤140737488351232:=by omega
  rw[←hm]at q0⊢;have w1:IntKind.i64.wrap (1+(m:Int))=1+(m:Int):=IntWalk.i64_in _ (by omega);have w3:IntKind.i64.wrap (m:Int)=(m:Int):=IntWalk.i64_in _ (by omega);have hw2:=wrap_md (L-(1+(m:Int)));obtain⟨L1,hL1e⟩:∃L1,L1=IntKind.i64.wrap (L-(1+(m:Int))):=⟨_,rfl⟩;have w2:=hL1e.symm;rw[←hL1e]at hw2;obtain⟨hL1m,hL1a,hL1b⟩:=hw2;obtain⟨Hg0,Hc,Hih,HK,HV,HS,Hkid,HL⟩:=xh8 hg0 hc ih hK hV hS hkid hL1m;obtain⟨Hkk,HKN,HVN⟩:=xh3 hkk hKN hVN;clear hm hc hg0 hzs hfw ih hK hV hS hkid hL1e hL1m hKN hVN hkk hwk hzl hkeys hkids hI hlv hwf;go_enter Tryz.func17,Tryz.ntmps17;go_wp2_with fail
  go_region
  go_wp2_with fail
  obtain⟨W,hW⟩:∃W,W=((w.setCell ⟨c,0,none⟩ (.int .i64 L1)).alloc (.cells #[.int .i64 k1,.int .i64 k2,.int .i64 k3,.float .f64 k4,.string z,.slice ko KN kc,.slice vo VN vc] 26)).drew:=⟨_,rfl⟩
  have hbW:W.heap[w.heap.size]?=some (.cells #[.int .i64 k1,.int .i64 k2,.int .i64 k3,.float .f64 k4,.string z,.slice ko KN kc,.slice vo VN vc] 26 (0,0)):=by
   rw[hW];have:=heap_alloc_new (w.setCell ⟨c,0,none⟩ (.int .i64 L1)) (.cells #[.int .i64 k1,.int .i64 k2,.int .i64 k3,.float .f64 k4,.string z,.slice ko KN kc,.slice vo VN vc] 26);rw[show (w.setCell ⟨c,0,none⟩ (.int .i64 L1)).heap.size=w.heap.size by simp]at this;exact this
  have hcW:W.heap[c]?=some (.cells #[.int .i64 L1] 3 (0,0)):=by
   rw[hW];refine(Below.heap_alloc _ _ _ (by simpa using hlt)).trans ?_;exact cells1_set Hc.out _
  have hGW:w.grownBy W (some c):=by rw[hW];exact gr_drew (gr_alloc (gr_set (xgr w _) _ _) _)
  rw[←hW];clear hW;obtain⟨HB,HC,HG⟩:=xh3 hbW hcW hGW;clear hbW hcW hGW c0 f0 hlt
  go_loopg [21] KN (fun g t21 wr=>∃(i:Nat) (L2:Int),t21=.int .i64 (i:Nat)∧i≤KN∧g=KN-i∧Md L2 (L1-(ksum (keys.take i):Nat))∧-9223372036854775808≤L2∧L2≤9223372036854775807∧wr.heap[c]?=some (.cells #[.int .i64 L2] 3 (0,0))∧wr.heap[w.heap.size]?=some (.cells #[.int .i64 k1,.int .i64 k2,.int .i64 k3,.float .f64 k4,.string z,.slice ko KN kc,.slice vo VN vc] 26 (0,0))∧w.grownBy wr (some c))
  case atStart=>exact⟨0,_,rfl,Nat.zero_le _,rfl,(by simpa[ksum] using Md.refl L1),hL1a,hL1b,HC.out,HB.out,HG.out⟩
  case round =>
   clear HB HC HG;obtain⟨i,L2,rfl,hi,hg,hL2,hL2a,hL2b,hcW,hbW,hGW⟩:=hrel;obtain⟨y0,y1,y2,y3,y4,y5,y6,yf⟩:=cells7 hbW;have d0:wr.cell? ⟨c,0,none⟩=some (.int .i64 L2):=by simp[World.cell?,hcW]
   have f0:wr.frozen? ⟨c,0,none⟩=false:=by simp[World.frozen?,hcW]
   obtain⟨HB,HC,HG,Hg,HL2⟩:=xh5 hbW hcW hGW hg hL2;clear hbW hcW hGW hg hL2
   by_cases hin:i<KN
   ·have hnm:(i:Int)<KN:=by omega
    have hwi:IntKind.i64.wrap ((i:Int)+1)=(i:Int)+1:=IntWalk.i64_in _ (by omega);obtain⟨k,hk⟩:∃k,keys[i]?=some k:=⟨_,List.getElem?_eq_getElem (by rw[←HKN.out];exact hin)⟩;obtain⟨b0,i0,hko,hSb,hkc⟩:=HK.out i k hk;subst hko;have e0:wr.cell? ⟨b0,i0+i,none⟩=some (.string (bs k)):=(World.cell?_of_block (HG.out.block b0 (HS.out b0 hSb).1 (by have:=(HS.out b0 hSb).2;simpa using this))).trans hkc;have hks9:=ksum_take hk
    have hkl9:k.length/16≤140737488351232:=by
     have:=Hkk.out k (List.mem_of_getElem? hk);omega
    have hzk:(bs k).size=k.length:=bs_size k;rw[←hzk]at hks9 hkl9;generalize bs k=zk at *;obtain⟨mk,hmk⟩:∃m,m=zk.size/16:=⟨_,rfl⟩;rw[←hmk]at hks9 hkl9;have q1:(zk.size:Int).tdiv 16=(mk:Int):=by rw[Int.tdiv_eq_ediv_of_nonneg (by omega),hmk];rfl
    have hw4:=wrap_md (L2-(mk:Int));obtain⟨Ln,hLn⟩:∃Ln,Ln=IntKind.i64.wrap (L2-(mk:Int)):=⟨_,rfl⟩;have w4:=hLn.symm;rw[←hLn]at hw4;have Hw4:=xhd hw4;have w5:IntKind.i64.wrap (mk:Int)=(mk:Int):=IntWalk.i64_in _ (by omega);have Hks9:=xhd hks9;clear hmk hk hSb hkc hks9 hzk hLn hw4;go_wp2_with fail
    go_roundg (KN-(i+1))
    case measure=>rw[Hg.out];omega
    case rel =>
     refine⟨i+1,_,by simp,by omega,rfl,?_,Hw4.out.2.1,Hw4.out.2.2,cells1_set HC.out _,?_,gr_set HG.out _ _⟩
     ·exact(Hw4.out.1.step HL2.out).eq (by rw[Hks9.out];omega)
     ·exact(Below.heap_setCell _ _ _ _ (by simpa using fun e=>hne e.symm)).trans HB.out
   ·obtain rfl:i=KN:=by omega
    have hnm:¬(i:Int)<i:=by omega
    have htk:keys.take i=keys:=List.take_of_length_le (by rw[HKN.out];exact Nat.le_refl _);replace HL2:=xhd (show Md L2 (L1-(ksum keys:Nat)) from by have:=HL2.out;rwa [htk]at this);clear htk
    by_cases hneg:L2<0
    ·go_wp2_with fail
     go_ret;exact⟨false,_,rfl,HC.out,HG.out,fun h=>by cases h⟩
    ·have HL20:=xhd (show 0≤L2∧L2≤9223372036854775807 from⟨by omega,hL2b⟩)
     clear y0 y1 y2 y3 y4 y5 y6 yf d0 f0;obtain⟨y0,y1,y2,y3,y4,y5,y6,yf⟩:=cells7 HB.out;have d0:wr.cell? ⟨c,0,none⟩=some (.int .i64 L2):=by have:=HC.out;simp[World.cell?,this]
     go_wp2_with fail
     go_loopg [7] VN (fun g t7 wr=>∃(j:Nat) (L3:Int),t7=.int .i64 (j:Nat)∧j≤VN∧g=VN-j∧Md L3 (L2-(fwBs (kids.take j):Nat))∧0≤L3∧L3≤9223372036854775807∧wr.heap[c]?=some (.cells #[.int .i64 L3] 3 (0,0))∧wr.heap[w.heap.size]?=some (.cells #[.int .i64 k1,.int .i64 k2,.int .i64 k3,.float .f64 k4,.string z,.slice ko i kc,.slice vo VN vc] 26 (0,0))∧w.grownBy wr (some c))
     case atStart=>exact⟨0,_,rfl,Nat.zero_le _,rfl,(by simpa[fwBs] using Md.refl L2),HL20.out.1,HL20.out.2,HC.out,HB.out,HG.out⟩
     case round =>
      clear HB HC HG y0 y1 y2 y3 y4 y5 y6 yf d0;obtain⟨j,L3,rfl,hj,hg,hL3,hL3p,hL3q,hcW,hbW,hGW⟩:=hrel;obtain⟨y0,y1,y2,y3,y4,y5,y6,yf⟩:=cells7 hbW;obtain⟨HB,HC,HG,Hg,HL3⟩:=xh5 hbW hcW hGW hg hL3;clear hbW hcW hGW hg hL3
      by_cases hjn:j<VN
      ·have hnm2:(j:Int)<VN:=by omega
       have hwi:IntKind.i64.wrap ((j:Int)+1)=(j:Int)+1:=IntWalk.i64_in _ (by omega);obtain⟨p,hp⟩:∃p,kids[j]?=some p:=⟨_,List.getElem?_eq_getElem (by rw[←HVN.out];exact hjn)⟩;obtain⟨b0,i0,hvo,hSb,kso,ksc,vso,vsc,hIp,hcp⟩:=HV.out j p hp;subst hvo;have hblk:∀k,S k→wr.heap[k]?=w.heap[k]?:=fun k hk=>HG.out.block k (HS.out k hk).1 (by have:=(HS.out k hk).2;simpa using this);have hcc:∀m u,(b7 p (.slice kso p.keys.length ksc) (.slice vso p.kids.length vsc))[m]?=some u→wr.cell? ⟨b0,i0+j*7+m,none⟩=some u:=fun m u hm=>(World.cell?_of_block (hblk b0 hSb)).trans (hcp m u hm);have e0:wr.cell? ⟨b0,i0+j*7,none⟩=_:=hcc 0 _ rfl;have e1:=hcc 1 _ rfl;have e2:=hcc 2 _ rfl;have e3:=hcc 3 _ rfl;have e4:=hcc 4 _ rfl;have e5:=hcc 5 _ rfl;have e6:=hcc 6 _ rfl;have hcall:=Hih.out p (Hkid.out p (List.mem_of_getElem? hp)).1 S wr _ _ c L3 (Hkid.out p (List.mem_of_getElem? hp)).2 (IsB.keep (fun k hk=>⟨hk,hblk k hk⟩) _ _ _ hIp) (fun k hk=>⟨Nat.lt_of_lt_of_le (HS.out k hk).1 HG.out.size,(HS.out k hk).2⟩) HC.out (by omega) hL3q;have hft:=fwBs_take hp;unfold obV at hcall;obtain⟨Hcall,Hft⟩:=xh2 hcall hft;clear hcall hft hcc hblk hIp hcp hSb hp;generalize p.k=p1 at *;generalize p.i=p2 at *;generalize p.g=p3 at *;generalize p.r=p4 at *;generalize bs p.t=p5 at *;generalize p.keys.length=p6 at *;generalize p.kids.length=p7 at *;go_wp2_with fail
       refine Hcall.out.mono ?_;rintro e w2⟨b,L4,rfl,hc4,hg4,hb4⟩;have hbk4:=(hg4.block _ (xgl HB.out) (by simpa using fun e=>hne e.symm)).trans HB.out;have Hc4:=xhd hc4;have Hg4:=xhd (HG.out.trans hg4);obtain⟨Hb4,Hbk4⟩:=xh2 hb4 hbk4;clear hc4 hg4 hb4 hbk4
       cases b
       ·go_wp2_with fail
        go_ret;exact⟨false,_,rfl,Hc4.out,Hg4.out,fun h=>by cases h⟩
       ·go_wp2_with fail
        go_roundg (VN-(j+1))
        case measure=>rw[Hg.out];omega
        case rel =>
         obtain⟨q1,q2,q3⟩:=Hb4.out (by trivial);exact⟨j+1,_,by simp,by omega,rfl,(q1.step HL3.out).eq (by rw[Hft.out];omega),q2,q3,Hc4.out,Hbk4.out,Hg4.out⟩
      ·obtain rfl:j=VN:=by omega
       have hnm2:¬(j:Int)<j:=by omega
       have htk:kids.take j=kids:=List.take_of_length_le (by rw[HVN.out];exact Nat.le_refl _);replace HL3:=xhd (show Md L3 (L2-(fwBs kids:Nat)) from by have:=HL3.out;rwa [htk]at this);clear htk;go_wp2_with fail
       go_ret;exact⟨true,_,rfl,HC.out,HG.out,fun _=>⟨((HL3.out.step HL2.out).step HL.out).eq (by omega),hL3p,hL3q⟩⟩
end Go.Proofs.YtfkecmlmnhbmoaaGreatDoor
namespace Go.Proofs.YtfkecmlmnhbmoaaGreatDoor
open Go Go.RowKit Go.Lib
theorem gr_grow (w:World)(k:Nat)(os:Array Obj):w.grownBy (Go.Sort.grow (w.drewN k) os) none:=by
 refine⟨rfl,rfl,rfl,by simp[Go.Sort.grow],fun j hj _=>?_⟩;simp only[Go.Sort.grow];rw[Array.getElem?_append_left (by simpa using hj)];rfl
theorem fmtb (b:Bool):(⟨(Lib.formatBool b).toArray⟩:ByteArray)=bs (if b then wTrue else wFalse):=by cases b<;>rfl
theorem pbool (b:Bool)(w:World):Calls Tryz.prog 260 #[.bool b] w fun e w'=>e=.returned (.string (bs (if b then wTrue else wFalse)))∧w'=w:=by
 have h0:=Tryz.strconv_FormatBool b w;rw[fmtb]at h0;have H0:=xhd h0;generalize bs (if b then wTrue else wFalse)=z at *;clear h0
 have h1:Calls Tryz.prog 261 #[.bool b] w fun e w'=>e=.returned (.string z)∧w'=w:=by
  go_enter Tryz.func261,Tryz.ntmps261;go_wp2_with fail
  refine H0.out.mono ?_;rintro e w1⟨rfl,hw⟩;subst w1;go_wp2_with fail
  go_ret;exact⟨rfl,rfl⟩
 have H1:=xhd h1;clear h1;go_enter Tryz.func260,Tryz.ntmps260;go_wp2_with fail
 refine H1.out.mono ?_;rintro e w1⟨rfl,hw⟩;subst w1;go_wp2_with fail
 go_ret;exact⟨rfl,rfl⟩
theorem itoa_any (n:Int)(h0:-9223372036854775808≤n)(h1:n≤9223372036854775807)(W0 w:World)(hT:TabIs Tryz.prog W0 "internal/strconv.uint64pow10" .u64 pow10Tab)(hE:Env W0 w):Calls Tryz.prog 110 #[.int .i64 n] w fun e w'=>e=.returned (.string (bs (Lib.itoa n)))∧w.grownBy w' none:=by
 refine(Tryz.strconv_Itoa n h0 h1 w (tab_env hT hE)).mono ?_;rintro e w'⟨rfl,k,os,rfl⟩;exact⟨rfl,gr_grow w k os⟩
theorem pint (n:Int)(h0:-9223372036854775808≤n)(h1:n≤9223372036854775807)(W0 w:World)(hT:TabIs Tryz.prog W0 "internal/strconv.uint64pow10" .u64 pow10Tab)(hE:Env W0 w):Calls Tryz.prog 265 #[.int .i64 n] w fun e w'=>e=.returned (.string (bs (Lib.itoa n)))∧w.grownBy w' none:=by
 have H0:=xhd (itoa_any n h0 h1 W0 w hT hE);clear hT hE
 have h1:Calls Tryz.prog 266 #[.int .i64 n] w fun e w'=>e=.returned (.string (bs (Lib.itoa n)))∧w.grownBy w' none:=by
  generalize bs (Lib.itoa n)=z at *;go_enter Tryz.func266,Tryz.ntmps266;go_wp2_with fail
  refine H0.out.mono ?_;rintro e w1⟨rfl,hg⟩;have Hg:=xhd hg;clear hg;go_wp2_with fail
  go_ret;exact⟨rfl,Hg.out⟩
 have H1:=xhd h1;generalize bs (Lib.itoa n)=z at *;clear h1 H0;go_enter Tryz.func265,Tryz.ntmps265;go_wp2_with fail
 refine H1.out.mono ?_;rintro e w1⟨rfl,hg⟩;have Hg:=xhd hg;clear hg;go_wp2_with fail
 go_ret;exact⟨rfl,Hg.out⟩
theorem preal (x:Nat)(t:By)(W0 w:World)(hf:FfC W0 x t)(hE:Env W0 w):Calls Tryz.prog 268 #[.float .f64 x] w fun e w'=>e=.returned (.string (bs t))∧w.grownBy w' none:=by
 have H0:=xhd (hf w hE);clear hf hE
 have h1:Calls Tryz.prog 269 #[.float .f64 x] w fun e w'=>e=.returned (.float .f64 x)∧w'=w:=by
  go_enter Tryz.func269,Tryz.ntmps269;go_wp2_with fail
  go_ret;exact⟨rfl,rfl⟩
 have H1:=xhd h1;generalize bs t=z at *;clear h1;go_enter Tryz.func268,Tryz.ntmps268;go_wp2_with fail
 refine H1.out.mono ?_;rintro e w1⟨rfl,hw⟩;subst w1;go_wp2_with fail
 refine H0.out.mono ?_;rintro e w1⟨rfl,hg⟩;have Hg:=xhd hg;clear hg;go_wp2_with fail
 go_ret;exact⟨rfl,Hg.out⟩
theorem pname (s:By)(hl:s.length≤1000000)(w:World):Calls Tryz.prog 277 #[.string (bs s)] w fun e w'=>e=.returned (.string (bs (47::(if s=[] then [32] else encN s))))∧w.grownBy w' none:=by
 have e1:(⟨#[47]⟩:ByteArray)=bs [47]:=rfl;have e2:(⟨#[32]⟩:ByteArray)=bs [32]:=rfl
 have hencl:(encN s).length≤3*s.length:=by
  clear hl
  induction s with
  | nil=>simp[encN]
  | cons d q ih=>simp only[encN];split<;>simp<;>omega
 by_cases hs:s=[]
 ·subst hs
  have ha:bs [47]++bs [32]=bs [47,32]:=rfl;have hz:¬(0:Int)<(bs []).size:=by rw[bs_size];simp
  have hn1:¬9223372036854775807<(bs [47]).size+(bs [32]).size:=by rw[bs_size,bs_size];simp
  rw[if_pos rfl];generalize bs []=z0 at *;generalize bs [47,32]=z1 at *;go_enter Tryz.func277,Tryz.ntmps277;go_wp2_with fail
  go_ret;exact⟨rfl,xgr _ _⟩
 ·rw[if_neg hs]
  have ha:bs [47]++bs (encN s)=bs (47::encN s):=bs_app [47] (encN s);have hz:(0:Int)<(bs s).size:=by rw[bs_size];have:=List.length_pos_iff.2 hs;omega
  have hn1:¬9223372036854775807<(bs [47]).size+(bs (encN s)).size:=by rw[bs_size,bs_size];simp;omega
  have H0:=xhd (encname_any s (by omega) w);generalize bs (47::encN s)=z1 at *;generalize bs (encN s)=z2 at *;generalize bs s=z0 at *;clear hs hencl;go_enter Tryz.func277,Tryz.ntmps277;go_wp2_with fail
  refine H0.out.mono ?_;rintro e w1⟨rfl,hg⟩;have Hg:=xhd hg;clear hg;go_wp2_with fail
  go_ret;exact⟨rfl,Hg.out⟩
theorem itoa_len' (n:Int)(h0:-9223372036854775808≤n)(h1:n≤9223372036854775807):(Lib.itoa n).length≤1000:=by
 have:=Lib.itoa_length_le n h0 h1;omega
theorem pref (n g:Int)(h0:-9223372036854775808≤n)(h1:n≤9223372036854775807)(k0:-9223372036854775808≤g)(k1:g≤9223372036854775807)(W0 w:World)(hT:TabIs Tryz.prog W0 "internal/strconv.uint64pow10" .u64 pow10Tab)(hE:Env W0 w):Calls Tryz.prog 285 #[.agg #[.int .i64 n,.int .i64 g]] w fun e w'=>e=.returned (.string (bs (Lib.itoa n++32::(Lib.itoa g++[32,82]))))∧w.grownBy w' none:=by
 have e1:(⟨#[32]⟩:ByteArray)=bs [32]:=rfl;have e2:(⟨#[32,82]⟩:ByteArray)=bs [32,82]:=rfl;have l1:=itoa_len' n h0 h1;have l2:=itoa_len' g k0 k1;have Hn:=xhd (fun w2 (hg:w.grownBy w2 none)=>itoa_any n h0 h1 W0 w2 hT (hE.grown0 hg));have Hg:=xhd (fun w2 (hg:w.grownBy w2 none)=>itoa_any g k0 k1 W0 w2 hT (hE.grown0 hg));have a1:bs (Lib.itoa n)++bs [32]=bs (Lib.itoa n++[32]):=bs_app _ _;have a2:bs (Lib.itoa n++[32])++bs (Lib.itoa g)=bs (Lib.itoa n++[32]++Lib.itoa g):=bs_app _ _;have a3:bs (Lib.itoa n++[32]++Lib.itoa g)++bs [32,82]=bs (Lib.itoa n++32::(Lib.itoa g++[32,82])):=by rw[bs_app];simp
 have z1:¬9223372036854775807<(bs (Lib.itoa n)).size+(bs [32]).size:=by rw[bs_size,bs_size];simp;omega
 have z2:¬9223372036854775807<(bs (Lib.itoa n++[32])).size+(bs (Lib.itoa g)).size:=by rw[bs_size,bs_size];simp;omega
 have z3:¬9223372036854775807<(bs (Lib.itoa n++[32]++Lib.itoa g)).size+(bs [32,82]).size:=by rw[bs_size,bs_size];simp;omega
 generalize bs (Lib.itoa n++32::(Lib.itoa g++[32,82]))=s4 at *;generalize bs (Lib.itoa n++[32]++Lib.itoa g)=s3 at *;generalize bs (Lib.itoa n++[32])=s2 at *;generalize bs (Lib.itoa n)=s0 at *;generalize bs (Lib.itoa g)=s1 at *;clear hT hE l1 l2 h0 h1 k0 k1;go_enter Tryz.func285,Tryz.ntmps285
 go_upto_region 1 with (fail)
 obtain⟨Wa,hWa⟩:∃Wa,Wa=w.alloc (.cells #[.int .i64 n,.int .i64 g] 73):=⟨_,rfl⟩;have c0:Wa.cell? ⟨w.heap.size,0,none⟩=some (.int .i64 n):=by rw[hWa];exact cell_two_new _ _ _ _ 0 _ rfl
 have c1:Wa.cell? ⟨w.heap.size,1,none⟩=some (.int .i64 g):=by rw[hWa];exact cell_two_new _ _ _ _ 1 _ rfl
 have hgw:w.grownBy Wa none:=by rw[hWa];exact gr_alloc (xgr _ _) _
 have HG:=xhd hgw;have hsz:w.heap.size<Wa.heap.size:=by rw[hWa];simp
 rw[←hWa];clear hWa hgw;go_wp2_with fail
 go_region_law
  (first
   | (go_simp;go_at_call 110;refine(Hn.out _ (by first|exact HG.out|exact gr_drew HG.out|exact gr_drewN HG.out _)).mono ?_;rintro e w2⟨rfl,hg2⟩;have Hgw:=xhd (show Wa.grownBy w2 none from by first|exact hg2|exact(gr_drew (xgr _ _)).trans hg2|exact(gr_drewN (xgr _ _) _).trans hg2);have Hc1:=xhd ((World.cell?_of_block (Hgw.out.block _ hsz (by simp))).trans c1);have d1:=Hc1.out;have HG2:=xhd (HG.out.trans Hgw.out);clear hg2)
   | (go_simp;go_at_call 110;refine(Hg.out _ (by first|exact HG2.out|exact gr_drew HG2.out|exact gr_drewN HG2.out _)).mono ?_;rintro e w3⟨rfl,hg3⟩;have HG3:=xhd (show w.grownBy w3 none from by first|exact HG2.out.trans hg3|exact(gr_drew HG2.out).trans hg3|exact(gr_drewN HG2.out _).trans hg3);clear hg3))
 all_goals
  go_wp2_with fail
  go_ret;exact⟨rfl,by first|exact HG3.out|exact gr_drew HG3.out|exact gr_drewN HG3.out _⟩
end Go.Proofs.YtfkecmlmnhbmoaaGreatDoor
