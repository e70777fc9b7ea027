/- Parts K10 L4 R2 D2 D2b U4 D13 D14 D15 D16 D6. -/
import Derived.ProofKit
import Derived.OpenVars
import Derived.Deep.DeepHandedRow
import Derived.Test.YtfkecmlmnhbmoaaGreatDoorW43
import Derived.Test.YtfkecmlmnhbmoaaGreatDoorW45
set_option linter.unusedVariables false
set_option linter.unusedSimpArgs false
set_option maxRecDepth 100000
set_option maxHeartbeats 40000000
namespace Go.Proofs.YtfkecmlmnhbmoaaGreatDoor
open Go Go.RowKit Go.Lib Go.ChangeShapes Go.WideShapes Go.ChangeAt Go.ChangeMaps
theorem below_of {w w':World}(h:w.grownBy w' Option.none):Below w.heap.size w w':=⟨h.os,h.tape,h.output,h.size,fun k hk=>h.block k hk (by simp)⟩
section
variable {H:Type} {enc:TypeId×Value→H} {P:Program}
theorem post_same {f:Func}{s:ChangeSpec}{apart fresh handsOn again:Bool}{W W':World}{args:Array Value}{v:Value}{ds gs:List (DataW H)}{before pa pv:List MemPlace}(hb:Below W.heap.size W W')
  (hW:DataW.Whole enc P f.params.toList s.vars apart W args.toList ds gs before)
  (hres:∀(b:Nat) (sp:Nat→Bool) (hd:Bool),DataW.TrodAll enc P W' b sp hd f.resultTypes.toList (v.resultList f.resultTypes.size) (s.fn H (ds++gs)).results [])
  (hargs:∀sp:Nat→Bool,(∀p∈before,sp p.block=true)→DataW.TrodAll enc P W' 0 sp true f.params.toList args.toList (s.fn H (ds++gs)).args pa)
  (hvars:∀sp:Nat→Bool,(∀p∈before,sp p.block=true)→DataW.TrodVars enc P W' sp s.vars (s.fn H (ds++gs)).vars pv)
  (hps:before=pa++pv)
  (hok:∀(j:Nat) (t:TypeId) (r:Value),f.resultTypes[j]?=some t→(v.resultList f.resultTypes.size)[j]?=some r→Value.okWide P W' .any 0 t r) :
  s.post enc P f apart fresh handsOn again W args v W':=by
 have hold:∀p∈before,(fun b=>decide (b<W.heap.size)) p.block=true:=fun p hp=>by simpa using hW.lt p hp
 refine⟨ds,gs,before,[],pa,pv,hW,hres _ _ _,hargs _ hold,hvars _ hold,hb.frame _,fun _=>?_⟩;have hlt:=hW.lt;obtain⟨_,_,_,_,_,hz,hn⟩:=hW;refine⟨hok,_,_,([]++pa)++pv,⟨[]++pa,pv,trodAll_append (hargs _ (fun _ _=>rfl)) (hres _ _ _),hvars _ (fun _ _=>rfl),rfl,?_,?_⟩,?_⟩
 ·intro b off hp
  have hp':MemPlace.cell b off∈before:=by rw[hps];simpa using hp
  have h1:=hz b off hp';have h2:=hb.block b (hlt _ hp');unfold World.frozen? at h1⊢;simp only[h2];exact h1
 ·intro ha
  have:=hn ha;rw[hps]at this;simpa using this
 ·intro p hp _
  rw[hps];simpa using hp
end
end Go.Proofs.YtfkecmlmnhbmoaaGreatDoor
namespace Go.Proofs.YtfkecmlmnhbmoaaGreatDoor
open Go Go.RowKit Go.Lib
section
variable {H:Type} {enc:TypeId×Value→H} {W:World} {sp:Nat→Bool} {hd:Bool}
theorem trod_floatG {P:Program}{k:FloatKind}{t:TypeId}{fuel:Nat}{cs:List Value}{x:DataW H×List MemPlace}(ht:P.underlying t=some (.float k))(h:DataW.trod enc P W 0 sp hd fuel t cs=some x):∃n,cs=[.float k n]∧x.1=.lit (.float k n)∧(Lit.float k n).wf=true:=by
 cases fuel with
 | zero=>simp[DataW.trod]at h
 | succ n =>
  unfold DataW.trod at h;rw[ht]at h
  split at h<;>simp_all
  all_goals first
   | (obtain⟨_,h⟩:=h;rw[←h])
   | rw[←h]
theorem struct_cellsG {P:Program}{t:TypeId}{fs:Array Field}{fuel:Nat}{cs:List Value}{x:DataW H×List MemPlace}(ht:P.underlying t=some (.struct fs))(hct:P.cellsOf t=fs.size)(hf:∀(i:Nat) (f:Field),fs[i]?=some f→f.offset=i∧P.cellsOf f.type=1)
  (h:DataW.trod enc P W 0 sp hd fuel t cs=some x):∃(n:Nat) (ds:List (DataW H)),fuel=n+1∧x.1=.agg ds∧ds.length=fs.size∧cs.length=fs.size∧∀(i:Nat) (f:Field),fs[i]?=some f→∃(d:DataW H) (q:List MemPlace) (c:Value),ds[i]?=some d∧cs[i]?=some c∧DataW.trod enc P W 0 sp hd n f.type [c]=some (d,q):=by
 obtain⟨xs,n,rfl,rfl,hl,hxl,hall⟩:=DataW.trod_struct ht h;refine⟨n,xs.map (·.1),rfl,rfl,by simpa using hxl,by rw[hl,hct],fun i f hi=>?_⟩;obtain⟨ho,hc⟩:=hf i f hi;have hlt:=(xgl hi);have h1:=hall i f hi;obtain⟨b,hb⟩:∃b,xs[i]?=some b:=⟨xs[i]'(by omega),List.getElem?_eq_getElem (by omega)⟩;obtain⟨c,hcs⟩:∃c,cs[i]?=some c:=⟨cs[i]'(by omega),List.getElem?_eq_getElem (by omega)⟩
 have htk:(cs.drop i).take 1=[c]:=by
  have e:=List.drop_eq_getElem_cons (l:=cs) (i:=i) (by omega);rw[e,(List.getElem?_eq_some_iff.1 hcs).2];rfl
 rw[ho,hc,htk,hb]at h1;exact⟨b.1,b.2,c,by simp[hb],hcs,h1⟩
theorem slice_cellsG {P:Program}{t e:TypeId}{sz n:Nat}{c:Value}{y:DataW H×List MemPlace}(ht:P.underlying t=some (.slice e))(hc:P.cellsOf e=sz)(hsz:1≤sz)(h:DataW.trod enc P W 0 sp hd n t [c]=some y) :
  (c=.slice none 0 0∧y.1=.nil)∨∃(R o len cap m:Nat) (el:List (DataW H×List MemPlace)) (rs:List (DataW H)) (so:Option Addr),n=m+1∧c=.slice so len cap∧y.1=.slice (el.map (·.1)) rs∧len≤cap∧cap≤maxLen∧el.length=len∧(0<len→so=some ⟨R,o,none⟩) ∧
   ∀(i:Nat) d,el[i]?=some d→∃cs,DataW.trod enc P W 0 sp hd m e cs=some d∧cs.length=sz∧∀j,j<sz→W.cell? ⟨R,o+i*sz+j,none⟩=cs[j]?:=by
 rcases DataW.trod_slice ht h with⟨hc0,hx⟩|⟨a,len,cap,el,rs,m,rfl,hcs,hx,_,hlc,hcm,hel,helem,hsp,_⟩
 ·left
  simp at hc0;exact⟨hc0,by rw[hx]⟩
 right;simp only[List.cons.injEq,and_true]at hcs;obtain⟨R,o,sR⟩:=a
 have hel2:∀(i:Nat) d,el[i]?=some d→∃cs,DataW.trod enc P W 0 sp hd m e cs=some d∧cs.length=sz∧∀j,j<sz→W.cell? ((⟨R,o,sR⟩:Addr).add (i*sz+j))=cs[j]?:=by
  intro i d hi;have hlt:=(List.getElem?_eq_some_iff.1 hi).1;have h1:=helem i (by omega);rw[hc,hi]at h1;obtain⟨ce,hce,hte⟩:=Option.bind_eq_some_iff.1 h1;obtain⟨_,hcl,hcc⟩:=World.cells?_some hce;refine⟨ce,hte,hcl,fun j hj=>?_⟩;have:=hcc j hj;rw[addr_add2]at this;exact this
 have hsR:0<len→sR=none:=by
  intro hl;obtain⟨d0,hd0⟩:∃d,el[0]?=some d:=⟨_,List.getElem?_eq_getElem (by omega)⟩;obtain⟨cs0,_,hl0,h00⟩:=hel2 0 d0 hd0;have h00:=h00 0 (by omega);obtain⟨c0,hc0⟩:∃c,cs0[0]?=some c:=⟨_,List.getElem?_eq_getElem (by omega)⟩;rw[hc0,show (Addr.add ⟨R,o,sR⟩ (0*sz+0))=⟨R,o,sR⟩ by simp[Addr.add]]at h00;exact Go.Proofs.cell_spot h00
 refine⟨R,o,len,cap,m,el,rs.map (·.1),some ⟨R,o,sR⟩,rfl,hcs,by rw[hx],hlc,hcm,hel,fun hl=>by rw[hsR hl],fun i d hi=>?_⟩;obtain⟨cs,h1,h2,h3⟩:=hel2 i d hi;refine⟨cs,h1,h2,fun j hj=>?_⟩;have:=h3 j hj;have hlt:=(List.getElem?_eq_some_iff.1 hi).1;rw[hsR (by omega)]at this
 rwa [Addr.add_lit,←Nat.add_assoc]at this
end
def LtS (W:World):Nat→Prop:=fun k=>k<W.heap.size
theorem weightsAll_mem {H:Type}{P:Program}{e:TypeId}{d:DataW H}{n:Nat} : ∀ {l:List (DataW H)},d∈l→n∈d.weights P e→n∈DataW.weightsAll P e l
 | [],h,_=>by simp at h
 | x::l,h,hn=>by
  simp only[DataW.weightsAll,List.mem_append];rcases List.mem_cons.1 h with rfl|h
  ·exact .inl hn
  ·exact .inr (weightsAll_mem h hn)
theorem keys_of {H:Type}{enc:TypeId×Value→H}{W:World}{sp:Nat→Bool}{hd:Bool}{n:Nat}{c:Value}{y:DataW H×List MemPlace}(h:DataW.trod enc Tryz.prog W 0 sp hd n 23 [c]=some y)(hw:∀n∈y.1.weights Tryz.prog 23,n≤140737488351232) :
  ∃keys:List By,SlAt (LtS W) W c 1 keys.length (kvals keys)∧keys.length≤140737488351232∧∀k∈keys,k.length≤140737488351232:=by
 rcases slice_cellsG Tryz.underlying23 (sz:=1) (by kernel_rfl) (by omega) h with⟨rfl,hy⟩|⟨R,o,len,cap,m,el,rs,so,rfl,rfl,hy,h1,h2,h3,h4,h5⟩
 ·exact⟨[],SlAt.nil _ _ _,by simp,by simp⟩
 ·rw[hy]at hw
  have hw1:((el.map (·.1)).length+rs.length)*Tryz.prog.bytesOf 9≤140737488351232:=hw _ (by simp[DataW.weights,Tryz.underlying23]);rw[show Tryz.prog.bytesOf 9=16 by kernel_rfl,List.length_map]at hw1;have hw2:∀n∈DataW.weightsAll Tryz.prog 9 (el.map (·.1)),n≤140737488351232:=fun n hn=>hw n (by simp only[DataW.weights,Tryz.underlying23,List.mem_cons,List.mem_append];exact .inr (.inl hn))
  have hb : ∀(L : List (DataW H × List MemPlace)) (off : Nat), (∀ n ∈ DataW.weightsAll Tryz.prog 9 (L.map (·.1)), n ≤ 140737488351232) → (∀(i : Nat) d, L[i]? = some d → ∃ cs, DataW.trod enc Tryz.prog W 0 sp hd m 9 cs = some d ∧ cs.length = 1 ∧ ∀ j, j < 1 → W.cell? ⟨R, off + i * 1 + j, none⟩ = cs[j]?) →
    ∃keys:List By,keys.length=L.length∧(∀k∈keys,k.length≤140737488351232)∧∀(j:Nat) u,(kvals keys)[j]?=some u→W.cell? ⟨R,off+j,none⟩=some u:=by
   intro L
   induction L with
   | nil=>intro off _ _;exact⟨[],rfl,by simp,fun j u hj=>by simp[kvals]at hj⟩
   | cons d L ih =>
    intro off hwL hL;simp only[List.map_cons,DataW.weightsAll,List.mem_append]at hwL
    obtain⟨keys,k1,k2,k3⟩:=ih (off+1) (fun n hn=>hwL n (.inr hn)) (fun i d hi=>by
     obtain⟨cs,c1,c2,c3⟩:=hL (i+1) d (by simpa using hi)
     exact⟨cs,c1,c2,fun j hj=>by have:=c3 j hj;rw[show off+(i+1)*1+j=off+1+i*1+j by omega]at this;exact this⟩)
    obtain⟨cs,c1,c2,c3⟩:=hL 0 d rfl;obtain⟨s,rfl,hs,_⟩:=DataW.trod_string Tryz.underlying9 c1;have hsl:s.data.toList.length≤140737488351232:=hwL _ (.inl (by rw[hs];simp[DataW.weights]));refine⟨s.data.toList::keys,by simp[k1],fun k hk=>?_,fun j u hj=>?_⟩
    ·rcases List.mem_cons.1 hk with rfl|hk
     ·exact hsl
     ·exact k2 k hk
    ·cases j with
     | zero =>
      have:=c3 0 (by omega);simp[kvals]at hj;subst hj;simpa using this
     | succ j =>
      have:=k3 j u (by simpa[kvals] using hj);rw[show off+1+j=off+(j+1) by omega]at this;exact this
  obtain⟨keys,k1,k2,k3⟩:=hb el o hw2 h5;refine⟨keys,⟨by simp[kvals],so,cap,by rw[k1,h3],by omega,h2,?_⟩,by omega,k2⟩;rcases Nat.eq_zero_or_pos keys.length with hz|hz
  ·exact .inl hz
  ·refine .inr ⟨R,o,h4 (by omega),?_,k3⟩
   obtain⟨k,hk⟩:∃k,keys[0]?=some k:=⟨_,List.getElem?_eq_getElem hz⟩;exact World.block_lt_of_cell? _ _ (k3 0 _ (by simp[kvals,hk];rfl))
theorem kids_build {H:Type}{W:World}{R:Nat}(P:DataW H→OB→Prop):∀(L:List (DataW H)) (off:Nat),
  (∀(i:Nat) d,L[i]?=some d→∃(o:OB) (ks vs:Value),IsB (LtS W) W o ks vs∧wfB o∧∀(j:Nat) u,(b7 o ks vs)[j]?=some u→W.cell? ⟨R,off+i*7+j,none⟩=some u) →
  ∃(os:List OB) (cells:List Value),os.length=L.length∧cells.length=os.length*7∧IsBs (LtS W) W os cells∧wfBs os∧∀(j:Nat) u,cells[j]?=some u→W.cell? ⟨R,off+j,none⟩=some u:=by
 intro L
 induction L with
 | nil=>intro off _;exact⟨[],[],rfl,rfl,by simp[IsBs],by simp[wfBs],fun j u hj=>by simp at hj⟩
 | cons d L ih =>
  intro off hL
  obtain⟨os,cells,k1,k2,k3,k4,k6⟩:=ih (off+7) (fun i d hi=>by
   obtain⟨o,ks,vs,c1,c2,c4⟩:=hL (i+1) d (by simpa using hi)
   exact⟨o,ks,vs,c1,c2,fun j u hj=>by have:=c4 j u hj;rw[show off+(i+1)*7+j=off+7+i*7+j by omega]at this;exact this⟩)
  obtain⟨o,ks,vs,c1,c2,c4⟩:=hL 0 d rfl;have hl:(b7 o ks vs).length=7:=rfl;refine⟨o::os,b7 o ks vs++cells,by simp[k1],by simp[k2,hl];omega,by simp only[IsBs];exact⟨ks,vs,cells,rfl,c1,k3⟩,by simp only[wfBs];exact⟨c2,k4⟩,fun j u hj=>?_⟩
  by_cases hj7:j<7
  ·rw[List.getElem?_append_left (by omega)]at hj
   have:=c4 j u hj;simpa using this
  ·rw[List.getElem?_append_right (by omega),hl]at hj
   have:=k6 (j-7) u hj;rw[show off+7+(j-7)=off+j by omega]at this;exact this
theorem list7 {α:Type}{x0 x1 x2 x3 x4 x5 x6:α} : ∀ {l:List α},l.length=7→l[0]?=some x0→l[1]?=some x1→l[2]?=some x2→l[3]?=some x3→l[4]?=some x4→l[5]?=some x5→l[6]?=some x6→l=[x0,x1,x2,x3,x4,x5,x6]
 | [y0,y1,y2,y3,y4,y5,y6],_,h0,h1,h2,h3,h4,h5,h6=>by
  simp only[List.getElem?_cons_zero,List.getElem?_cons_succ,Option.some.injEq]at h0 h1 h2 h3 h4 h5 h6;rw[h0,h1,h2,h3,h4,h5,h6]
theorem ob_of_trod {H:Type}{enc:TypeId×Value→H}{W:World}{sp:Nat→Bool}{hd:Bool} : ∀(fuel:Nat) (cs:List Value) (x:DataW H×List MemPlace),DataW.trod enc Tryz.prog W 0 sp hd fuel 26 cs=some x→(∀n∈x.1.weights Tryz.prog 26,n≤140737488351232) →
  ∃(o:OB) (ks vs:Value),cs=b7 o ks vs∧IsB (LtS W) W o ks vs∧wfB o:=by
 intro fuel
 induction fuel using Nat.strongRecOn with
 | _ fuel IH =>
  intro cs x h hw
  obtain⟨n,ds,rfl,hx,hdl,hcl,hs⟩:=struct_cellsG Tryz.underlying26 (by kernel_rfl) (fun i f hf=>by
   match i,hf with
   | 0,hf=>simp at hf;subst hf;exact⟨rfl,by kernel_rfl⟩
   | 1,hf=>simp at hf;subst hf;exact⟨rfl,by kernel_rfl⟩
   | 2,hf=>simp at hf;subst hf;exact⟨rfl,by kernel_rfl⟩
   | 3,hf=>simp at hf;subst hf;exact⟨rfl,by kernel_rfl⟩
   | 4,hf=>simp at hf;subst hf;exact⟨rfl,by kernel_rfl⟩
   | 5,hf=>simp at hf;subst hf;exact⟨rfl,by kernel_rfl⟩
   | 6,hf=>simp at hf;subst hf;exact⟨rfl,by kernel_rfl⟩
   | i+7,hf=>simp at hf) h
  obtain⟨d0,q0,c0,a0,b0,t0⟩:=hs 0 _ rfl;obtain⟨d1,q1,c1,a1,b1,t1⟩:=hs 1 _ rfl;obtain⟨d2,q2,c2,a2,b2,t2⟩:=hs 2 _ rfl;obtain⟨d3,q3,c3,a3,b3,t3⟩:=hs 3 _ rfl;obtain⟨d4,q4,c4,a4,b4,t4⟩:=hs 4 _ rfl;obtain⟨d5,q5,c5,a5,b5,t5⟩:=hs 5 _ rfl;obtain⟨d6,q6,c6,a6,b6,t6⟩:=hs 6 _ rfl;obtain⟨z0,e0,f0,_⟩:=DataW.trod_int (k:=.i64) (by kernel_rfl) t0;obtain⟨z1,e1,f1,_⟩:=DataW.trod_int (k:=.i64) (by kernel_rfl) t1;obtain⟨z2,e2,f2,_⟩:=DataW.trod_int (k:=.i64) (by kernel_rfl) t2;obtain⟨z3,e3,f3,w3⟩:=trod_floatG (k:=.f64) (by kernel_rfl) t3;obtain⟨s,e4,f4,_⟩:=DataW.trod_string (by kernel_rfl) t4;have hds:=list7 (hdl.trans rfl) a0 a1 a2 a3 a4 a5 a6;rw[hx,hds]at hw;simp only[DataW.weights,Tryz.underlying26,List.map_cons,List.map_nil,DataW.weightsEach,List.mem_append]at hw;have hw4:∀n∈d4.weights Tryz.prog 9,n≤140737488351232:=fun n hn=>hw n (by simp[hn]);have hw5:∀n∈d5.weights Tryz.prog 23,n≤140737488351232:=fun n hn=>hw n (by simp[hn]);have hw6:∀n∈d6.weights Tryz.prog 24,n≤140737488351232:=fun n hn=>hw n (by simp[hn]);obtain⟨keys,hK,hKb,hKl⟩:=keys_of t5 hw5
  have hkids:∃(kids:List OB) (cells:List Value),SlAt (LtS W) W c6 7 kids.length cells∧IsBs (LtS W) W kids cells∧wfBs kids∧kids.length*96≤140737488351232:=by
   rcases slice_cellsG Tryz.underlying24 (sz:=7) (by kernel_rfl) (by omega) t6 with⟨rfl,hy⟩|⟨R,o,len,cap,m,el,rs,so,rfl,rfl,hy,h1,h2,h3,h4,h5⟩
   ·exact⟨[],[],SlAt.nil _ _ _,by simp[IsBs],by simp[wfBs],by simp⟩
   ·rw[show d6=_ from hy]at hw6
    have hk1:((el.map (·.1)).length+rs.length)*Tryz.prog.bytesOf 26≤140737488351232:=hw6 _ (by simp[DataW.weights,Tryz.underlying24]);rw[show Tryz.prog.bytesOf 26=96 by kernel_rfl,List.length_map]at hk1;have hk2:∀n∈DataW.weightsAll Tryz.prog 26 (el.map (·.1)),n≤140737488351232:=fun n hn=>hw6 n (by simp only[DataW.weights,Tryz.underlying24,List.mem_cons,List.mem_append];exact .inr (.inl hn))
    obtain⟨os,cells,k1,k2,k3,k4,k6⟩:=kids_build (W:=W) (R:=R) (fun _ _=>True) (el.map (·.1)) o (fun i d hi=>by
     rw[List.getElem?_map]at hi;obtain⟨y,hy1,rfl⟩:=Option.map_eq_some_iff.1 hi;obtain⟨cs',g1,g2,g3⟩:=h5 i y hy1;obtain⟨ob,ks,vs,rfl,g4,g5⟩:=IH m (by omega) cs' y g1 (fun n hn=>hk2 n (weightsAll_mem (List.mem_map.2 ⟨y,List.mem_of_getElem? hy1,rfl⟩) hn))
     exact⟨ob,ks,vs,g4,g5,fun j u hj=>by
      have:=g3 j (by have:=(List.getElem?_eq_some_iff.1 hj).1;exact this)
      rw[this];exact hj⟩)
    have k1':os.length=len:=by rw[k1,List.length_map,h3]
    refine⟨os,cells,⟨k2,so,cap,by rw[k1'],by omega,h2,?_⟩,k3,k4,by rw[k1',←h3];omega⟩;rcases Nat.eq_zero_or_pos len with hz|hz
    ·exact .inl (by omega)
    ·refine .inr ⟨R,o,h4 hz,?_,k6⟩
     obtain⟨k,hk⟩:∃k,cells[0]?=some k:=⟨_,List.getElem?_eq_getElem (by omega)⟩;exact World.block_lt_of_cell? _ _ (k6 0 _ hk)
  obtain⟨kids,cells,hV,hI,hwf,hb⟩:=hkids;simp only[List.cons.injEq,and_true]at e0 e1 e2 e3 e4;simp only[Prod.mk.injEq]at f0 f1 f2 f4;obtain⟨rfl,_⟩:=f0;obtain⟨rfl,_⟩:=f1;obtain⟨rfl,_⟩:=f2;obtain⟨rfl,_⟩:=f4;subst e0;subst e1;subst e2;subst e3;subst e4
  have f3':d3=.lit (.float .f64 z3):=f3;subst f3';have hcs:=list7 (hcl.trans rfl) b0 b1 b2 b3 b4 b5 b6;refine⟨.mk z0 z1 z2 z3 s.data.toList keys kids,c5,c6,?_,?_,?_⟩
  ·rw[hcs]
   simp only[b7,OB.k,OB.i,OB.g,OB.r,OB.t];rw[←bs_of]
  ·simp only[IsB]
   exact⟨hK,cells,hV,hI⟩
  ·simp only[wfB]
   have h1:z3<2^64:=of_decide_eq_true w3;exact⟨by omega,hw4 _ (by simp[DataW.weights]),hKb,hKl,hb,hwf⟩
end Go.Proofs.YtfkecmlmnhbmoaaGreatDoor
namespace Go.Proofs.YtfkecmlmnhbmoaaGreatDoor
open Go Go.RowKit Go.Maps
theorem ob_arr (ps:List PO)(kids:List OB)(hlen:ps.length=kids.length)(hl2:kids.length≤20000)(hP:∀(i:Nat) p o,ps[i]?=some p→kids[i]?=some o→ObC p o)(i g:Int)(r:Nat)(z:ByteArray)(ko vo:Option Addr)(kn kc vc:Nat)(S:Nat→Prop)(w:World)(hV:KidAt S w vo kids)(hvc:kids.length≤vc)(hS:∀k,S k→k<w.heap.size) :
  Calls Tryz.prog 21 #[.agg #[.int .i64 7,.int .i64 i,.int .i64 g,.float .f64 r,.string z,.slice ko kn kc,.slice vo kids.length vc]] w fun e w'=>ObPost (.arr ps) w w' e:=by
 have hcall:=fun (w1:World) (hg:w.grownBy w1 none)=>objs_any ps kids hlen hl2 hP vo vc S w1 (hV.keep (fun k hk=>⟨hk,hg.block k (hS k hk) (by simp)⟩)) hvc (fun k hk=>Nat.lt_of_lt_of_le (hS k hk) hg.size);have Hcall:=xhd hcall;have Hl:=xhd (show ps.length≤1000000 by omega);clear hcall hP hV hS;obtain⟨vn,hvn⟩:∃n,n=kids.length:=⟨_,rfl⟩;rw[←hvn]at Hcall⊢;clear hvn hlen hl2 hvc;have Hg0:=xhd (gr_alloc (xgr w none) (.cells #[.int .i64 7,.int .i64 i,.int .i64 g,.float .f64 r,.string z,.slice ko kn kc,.slice vo vn vc] 26));go_enter Tryz.func21,Tryz.ntmps21;go_wp2_with fail
 refine(Hcall.out _ Hg0.out).mono ?_;rintro e w2⟨sl,cells,S',rfl,hsl,hO,hbd,hg2⟩;have H2:=xhd (And.intro hsl (And.intro hO (And.intro hbd hg2)));have Hgs:=xhd hg2.size;clear hsl hO hbd hg2;go_wp2_with fail
 go_ret2;obtain⟨hsl,hO,hbd,hg2⟩:=H2.out;refine⟨_,S',rfl,?_,fun k hk=>?_,Hg0.out.trans hg2⟩
 ·simp only[ObjO]
  exact⟨Hl.out,sl,cells,rfl,hsl,hO⟩
 ·have:=hbd k hk
  simp at this;omega
theorem ob_dict (keys:List By)(ps:List PO)(kids:List OB)(hkv:keys.length=kids.length)(hnd:keys.Nodup)(hkk:∀k∈keys,k.length≤1000000)(hlen:ps.length=kids.length)(hl2:kids.length≤20000)(hP:∀(i:Nat) p o,ps[i]?=some p→kids[i]?=some o→ObC p o)(i g:Int)(r:Nat)(z:ByteArray)(ko vo:Option Addr)(kc vc:Nat)(S:Nat→Prop)(w:World)(hK:KeyAt S w ko keys)(hV:KidAt S w vo kids)(hkc:keys.length≤kc)(hvc:kids.length≤vc)(hS:∀k,S k→k<w.heap.size) :
  Calls Tryz.prog 21 #[.agg #[.int .i64 8,.int .i64 i,.int .i64 g,.float .f64 r,.string z,.slice ko keys.length kc,.slice vo kids.length vc]] w fun e w'=>ObPost (.dict keys ps) w w' e:=by
 have hcall:=fun (w1:World) (hg:w.grownBy w1 none)=>dict_obj keys ps kids hkv hnd hkk hlen hl2 hP ko vo kc vc S w1 (hK.keep (fun k hk=>⟨hk,hg.block k (hS k hk) (by simp)⟩)) (hV.keep (fun k hk=>⟨hk,hg.block k (hS k hk) (by simp)⟩)) hkc hvc (fun k hk=>Nat.lt_of_lt_of_le (hS k hk) hg.size);have Hcall:=xhd hcall;have Hk:=xhd (show KeysOk keys from⟨by omega,hkk⟩);clear hcall hP hV hS hK hkk hnd;obtain⟨vn,hvn⟩:∃n,n=kids.length:=⟨_,rfl⟩;obtain⟨kn,hkn⟩:∃n,n=keys.length:=⟨_,rfl⟩;rw[←hvn,←hkn]at Hcall⊢;clear hvn hlen hl2 hvc hkc hkn hkv;have Hg0:=xhd (gr_alloc (xgr w none) (.cells #[.int .i64 8,.int .i64 i,.int .i64 g,.float .f64 r,.string z,.slice ko kn kc,.slice vo vn vc] 26));go_enter Tryz.func21,Tryz.ntmps21;go_wp2_with fail
 refine(Hcall.out _ Hg0.out).mono ?_;rintro e w2⟨cells,S',rfl,hD,hO,hbd,hg2⟩;have H2:=xhd (And.intro hD (And.intro hO (And.intro hbd hg2)));clear hD hO hbd hg2;go_wp2_with fail
 go_ret2;obtain⟨hD,hO,hbd,hg2⟩:=H2.out;rw[show ∀o,(w.alloc o).heap.size=w.heap.size+1 from fun o=>by simp]at hD;have hdl:=hD.lt;refine⟨_,fun k=>S' k∨k=w.heap.size+1,rfl,?_,fun k hk=>?_,Hg0.out.trans hg2⟩
 ·simp only[ObjO]
  refine⟨Hk.out,_,cells,rfl,.inr (by simp),hD,ObjOs.keep (fun k hk=>⟨.inl hk,rfl⟩) _ _ hO⟩
 ·rcases hk with hk|hk
  ·have:=hbd k hk
   simp at this;omega
  ·omega
theorem ob_leaf {p:PO}{w w':World}{v:Value}{e:Ending}(h:ObL w w' v e)(hO:∀S,ObjO S w' p v):ObPost p w w' e:=⟨v,fun _=>False,h.1,hO _,fun k hk=>hk.elim,h.2⟩
theorem okRs_get {ff:Nat→By}{R:Nat→Prop} : ∀ {ps:List PO},okRs ff R ps→∀(i:Nat) p,ps[i]?=some p→okR ff R p
 | [],_,i,p,h=>by simp at h
 | q::ps,hs,i,p,h=>by
  simp only[okRs]at hs
  cases i with
  | zero=>simp at h;subst h;exact hs.1
  | succ i=>exact okRs_get hs.2 i p (by simpa using h)
theorem ob_all (ff:Nat→By)(R:Nat→Prop):∀(n:Nat) (p:PO) (o:OB),lvB o≤n→Img p o→okR ff R p→fwB o≤20000→ObC p o:=by
 intro n
 induction n with
 | zero=>intro p o hl;cases o;simp only[lvB]at hl;omega
 | succ n ih =>
  intro p o hlv himg hok hfw S w ks vs hI hS;obtain⟨ko,kc,vo,vc,rfl,rfl,hm1,hm2,hm3,hm4,hK,hV⟩:=hI.view;have htl:=fw_text hfw;have hvl:=fw_kids hfw;have hkk:∀k∈o.keys,k.length≤1000000:=fun k hk=>by have:=fw_key hfw hk;omega
  have hkid:∀q∈o.kids,lvB q≤n∧fwB q≤20000:=fun q hq=>⟨by have:=lv_kid hq;omega,by have:=fw_kid hq;omega⟩;obtain⟨k,i,g,r,t,keys,kids⟩:=o;simp only[OB.keys,OB.kids,OB.t]at *;unfold obV;simp only[OB.k,OB.i,OB.g,OB.r,OB.t,OB.keys,OB.kids];have ht:t.length≤319999:=by omega
  cases p with
  | null =>
   simp only[Img,OB.k]at himg;subst himg;exact(ob_null i g r (bs t) ko vo _ kc _ vc w).mono fun e w' h=>ob_leaf h (fun S=>by simp only[ObjO])
  | bool b =>
   simp only[Img,OB.k,OB.i]at himg;obtain⟨rfl,rfl⟩:=himg
   cases b
   ·exact(ob_bfalse g r (bs t) ko vo _ kc _ vc w).mono fun e w' h=>ob_leaf h (fun S=>by simp only[ObjO])
   ·exact(ob_btrue g r (bs t) ko vo _ kc _ vc w).mono fun e w' h=>ob_leaf h (fun S=>by simp only[ObjO])
  | int m =>
   simp only[Img,OB.k,OB.i]at himg;obtain⟨rfl,rfl⟩:=himg;exact(ob_int i g r (bs t) ko vo _ kc _ vc w).mono fun e w' h=>ob_leaf h (fun S=>by simp only[ObjO])
  | real x =>
   simp only[Img,OB.k,OB.r]at himg;obtain⟨rfl,rfl⟩:=himg;exact(ob_real i g r (bs t) ko vo _ kc _ vc w).mono fun e w' h=>ob_leaf h (fun S=>by simp only[ObjO])
  | lit s =>
   simp only[Img,OB.k,OB.t]at himg;obtain⟨rfl,rfl⟩:=himg;exact(ob_lit i g r (bs t) ko vo _ kc _ vc w).mono fun e w' h=>ob_leaf h (fun S=>by simp only[ObjO];exact⟨ht,trivial⟩)
  | hexl s =>
   simp only[Img,OB.k,OB.t]at himg;obtain⟨rfl,rfl⟩:=himg;exact(ob_hexl i g r (bs t) ko vo _ kc _ vc w).mono fun e w' h=>ob_leaf h (fun S=>by simp only[ObjO];exact⟨ht,trivial⟩)
  | name s =>
   simp only[Img,OB.k,OB.t]at himg;obtain⟨rfl,rfl⟩:=himg;exact(ob_name i g r (bs t) ko vo _ kc _ vc w).mono fun e w' h=>ob_leaf h (fun S=>by simp only[ObjO];exact⟨ht,trivial⟩)
  | ref m q =>
   simp only[Img,OB.k,OB.i,OB.g]at himg;obtain⟨rfl,rfl,rfl⟩:=himg;exact(ob_ref i g r (bs t) ko vo _ kc _ vc w).mono fun e w' h=>ob_leaf h (fun S=>by simp only[ObjO])
  | arr ps =>
   simp only[Img,OB.k,OB.kids]at himg;obtain⟨rfl,himg⟩:=himg;simp only[okR]at hok;refine ob_arr ps kids (Imgs.len himg) (by omega) (fun j p o hp ho=>?_) i g r (bs t) ko vo _ kc vc S w hV hm4 hS;obtain⟨p',hp',hi'⟩:=Imgs.get himg j o ho;rw[hp]at hp';injection hp' with hp';subst hp'
   have hm:=hkid o (List.mem_of_getElem? ho);exact ih p o hm.1 hi' (okRs_get hok j p hp) hm.2
  | dict pkeys ps =>
   simp only[Img,OB.k,OB.kids,OB.keys]at himg;obtain⟨rfl,rfl,himg⟩:=himg;simp only[okR]at hok;have hpl:=Imgs.len himg;refine ob_dict keys ps kids (by omega) hok.2.1 hkk hpl (by omega) (fun j p o hp ho=>?_) i g r (bs t) ko vo kc vc S w hK hV hm3 hm4 hS;obtain⟨p',hp',hi'⟩:=Imgs.get himg j o ho;rw[hp]at hp';injection hp' with hp';subst hp'
   have hm:=hkid o (List.mem_of_getElem? ho);exact ih p o hm.1 hi' (okRs_get hok.2.2.2 j p hp) hm.2
def KdPost (pf:By→Nat)(ff:Nat→By)(S:Nat→Prop)(w w':World)(kids:List OB)(kk:Int)(ksv:Value)(C:Prop)(e:Ending):Prop :=
 ∃(v:Value) (b:Bool),e=.returned (.tuple #[v,.bool b])∧Shape7 v∧w.grownBy w' none ∧
  (b=true→C∧∃(ps:List PO) (vs:Value) (S':Nat→Prop),Imgs2 ps kids∧okSs ff (RR pf ff) ps∧v=.agg #[.int .i64 kk,.int .i64 0,.int .i64 0,.float .f64 0,.string ⟨#[]⟩,ksv,vs] ∧
   (∃cells,SlAt S' w' vs 7 (valPs ps).length cells∧IsVs S' w' (valPs ps) cells)∧(∀k,S' k→(S k∨w.heap.size≤k)∧k<w'.heap.size))
theorem fo_arr (pf:By→Nat)(ff:Nat→By)(W0:World)(kids:List OB)(hP:∀p∈kids,FoC pf ff W0 p∧wfB p)(hlen:kids.length*96≤140737488351232)(i g:Int)(r:Nat)(z:ByteArray)(ko vo:Option Addr)(kn kc vc:Nat)
  (S:Nat→Prop)(w:World)(hV:KidAt S w vo kids)(hvc:kids.length≤vc)(hS:∀k,S k→k<w.heap.size)(hE:Env W0 w) :
  Calls Tryz.prog 18 #[.agg #[.int .i64 7,.int .i64 i,.int .i64 g,.float .f64 r,.string z,.slice ko kn kc,.slice vo kids.length vc]] w fun e w'=>KdPost pf ff S w w' kids 6 (.slice none 0 0) True e:=by
 have hcall:=fun (w1:World) (hg:w.grownBy w1 none)=>fk_any pf ff W0 kids hP hlen 6 7 i g r z none 0 0 ko vo kn kc vc S w1 (hV.keep (fun k hk=>⟨hk,hg.block k (hS k hk) (by simp)⟩)) hvc (fun k hk=>Nat.lt_of_lt_of_le (hS k hk) hg.size) (hE.grown0 hg);obtain⟨Hcall,HS⟩:=xh2 hcall hS;clear hcall hP hV hS hE;obtain⟨vn,hvn⟩:∃n,n=kids.length:=⟨_,rfl⟩;rw[←hvn]at Hcall hvc hlen⊢;clear hvn;obtain⟨hg0,hb0,hz0⟩:=fr_world w (.cells #[.int .i64 7,.int .i64 i,.int .i64 g,.float .f64 r,.string z,.slice ko kn kc,.slice vo vn vc] 26);unfold Z30 at *;go_enter Tryz.func18,Tryz.ntmps18;go_wp2_with fail
 refine(only_all _ _ _ _ _ _ _ _ _ _ _ _).mono ?_;rintro e w1⟨⟨b,rfl⟩,hg1⟩;have hb1:=(hg1.block _ (xgl hb0) (by simp)).trans hb0;have hz1:=(hg1.block _ (xgl hz0) (by simp)).trans hz0;obtain⟨y0,y1,y2,y3,y4,y5,y6,yf⟩:=cells7 hb1;obtain⟨z0,z1,z2,z3,z4,z5,z6,zf⟩:=cells7 hz1;obtain⟨HZ,HBk⟩:=xh2 hz1 hb1;have HG:=xhd (hg0.trans hg1);clear hg0 hb0 hz0 hg1 hb1 hz1
 cases b
 ·go_wp2_with fail
  refine fr_ret rfl rfl HZ.out ?_;intro w' _ _ hgr
  first
   | exact⟨.null,false,rfl,hgr _ _ HG.out (by omega),fun h=>by cases h⟩
   | exact⟨_,false,rfl,⟨_,_,_,_,_,_,_,_,_,_,_,rfl⟩,hgr _ _ HG.out (by omega),fun h=>by cases h⟩
 ·go_wp2_with fail
  refine(Hcall.out _ HG.out).mono ?_;rintro e w2⟨v,b,rfl,hsh,hg2,hb2⟩;obtain⟨sk,sn2,sg,sx,st,so1,sn1,sc1,so2,sn3,sc2,rfl⟩:=hsh;have Hb2:=xhd hb2;have hBl:=(xgl HZ.out);clear hb2;have Hgw:=xhd (show w1.grownBy w2 none from by first|exact hg2|exact(gr_drew (xgr _ _)).trans hg2|exact(gr_drewN (xgr _ _) _).trans hg2);have hz2:=(Hgw.out.block _ (xgl HZ.out) (by simp)).trans HZ.out;have hbk2:=(Hgw.out.block _ (xgl HBk.out) (by simp)).trans HBk.out;have HZ2:=xhd hz2;have HG2:=xhd (HG.out.trans Hgw.out);obtain⟨x0,x1,x2,x3,x4,x5,x6,xf⟩:=cells7 hz2;obtain⟨j0,j1,j2,j3,j4,j5,j6,jf⟩:=cells7 hbk2;clear hg2 hz2 hbk2
  clear y0 y1 y2 y3 y4 y5 y6 yf z0 z1 z2 z3 z4 z5 z6 zf;go_wp2_with fail
  refine fr_ret rfl rfl HZ2.out ?_;intro w' hk hsz hgr;refine⟨_,b,rfl,⟨_,_,_,_,_,_,_,_,_,_,_,rfl⟩,hgr _ _ HG2.out (by omega),fun h=>?_⟩;obtain⟨ps,vs,cells,S',himg,hok,hv,hsl,hO,hbd⟩:=Hb2.out h
  have hkp:∀k,S' k→w'.heap[k]?=w2.heap[k]?:=fun k hk'=>hk k (fun e=>by
   have h1:=hbd k hk';rcases h1.1 with h2|h2
   ·have:=HS.out k h2;omega
   ·omega)
  refine⟨trivial,ps,vs,S',himg,hok,hv,⟨cells,hsl.keep (fun k hk'=>⟨hk',hkp k hk'⟩),IsVs.keep (fun k hk'=>⟨hk',hkp k hk'⟩) _ _ hO⟩,fun k hk'=>?_⟩;have h1:=hbd k hk';exact⟨by rcases h1.1 with h2|h2;exact .inl h2;exact .inr (by omega),by rw[hsz];exact h1.2⟩
theorem bl_eq:∀(x y:List UInt8),Op.bytesLess x y=decide (x<y)
 | [],[]=>by simp[Op.bytesLess]
 | _::_,[]=>by simp[Op.bytesLess]
 | [],_::_=>by simp[Op.bytesLess]
 | a::x,b::y=>by
  rw[Op.bytesLess,bl_eq x y];simp only[List.cons_lt_cons_iff]
  by_cases h1:a<b<;>by_cases h2:a=b<;>by_cases h3:x<y<;>simp[h1,h2,h3]
theorem bs_less (a b:By):Op.bytesLess (bs a).toList (bs b).toList=decide (a<b):=by
 rw[ByteArray.toList_eq,ByteArray.toList_eq,bs_list,bs_list,bl_eq]
def KeysUp (keys:List By)(i:Nat):Prop:=(∀k∈keys.take i,35∉k∧∀c∈k,(c.toNat:Int)≠0)∧(keys.take i).Pairwise (· < ·)
theorem KeysUp.step {keys:List By}{i:Nat}{k:By}(h:KeysUp keys i)(hk:keys[i]?=some k)(h1:35∉k)(h2:∀c∈k,(c.toNat:Int)≠0)(h3:∀p,0<i→keys[i-1]?=some p→p<k):KeysUp keys (i+1):=by
 unfold KeysUp;rw[List.take_add_one,hk];refine⟨fun q hq=>?_,?_⟩
 ·rcases List.mem_append.1 hq with hq|hq
  ·exact h.1 q hq
  ·simp at hq;subst hq;exact⟨h1,h2⟩
 ·rw[List.pairwise_append]
  refine⟨h.2,by simp,fun a ha b hb=>?_⟩;simp at hb;subst hb
  obtain⟨j,hj⟩:=List.mem_iff_getElem?.1 ha
  have hji:j<i:=by
   have:=(List.getElem?_eq_some_iff.1 hj).1;simp at this;omega
  have hkj:keys[j]?=some a:=by rw[List.getElem?_take,if_pos hji]at hj;exact hj
  have hil:i<keys.length:=(List.getElem?_eq_some_iff.1 hk).1;obtain⟨p,hp⟩:∃p,keys[i-1]?=some p:=⟨_,List.getElem?_eq_getElem (by omega)⟩;have hpk:=h3 p (by omega) hp
  by_cases e:j=i-1
  ·subst e
   rw[hp]at hkj;injection hkj with e2;subst e2;exact hpk
  ·have hpt:(keys.take i)[i-1]?=some p:=by rw[List.getElem?_take,if_pos (by omega)];exact hp
   have hr:=List.pairwise_iff_getElem.1 h.2 j (i-1) (List.getElem?_eq_some_iff.1 hj).1 (List.getElem?_eq_some_iff.1 hpt).1 (by omega);rw[(List.getElem?_eq_some_iff.1 hj).2,(List.getElem?_eq_some_iff.1 hpt).2]at hr;exact List.lt_trans hr hpk
theorem KeysUp.nodup {keys:List By}(h:keys.Pairwise (· < ·)):keys.Nodup:=by
 refine List.Pairwise.imp (fun {a b} hab e=>?_) h;subst e;exact List.lt_irrefl a hab
theorem fo_dict (pf:By→Nat)(ff:Nat→By)(W0:World)(keys:List By)(kids:List OB)(hP:∀p∈kids,FoC pf ff W0 p∧wfB p)(hlen:kids.length*96≤140737488351232)(hkl:keys.length≤140737488351232)(hkk:∀k∈keys,k.length≤140737488351232)(i0 g:Int)(r:Nat)(z:ByteArray)(ko vo:Option Addr)(kc vc:Nat)
  (S:Nat→Prop)(w:World)(hK:KeyAt S w ko keys)(hV:KidAt S w vo kids)(hkc:keys.length≤kc)(hvc:kids.length≤vc)(hS:∀k,S k→k<w.heap.size)(hE:Env W0 w) :
  Calls Tryz.prog 18 #[.agg #[.int .i64 8,.int .i64 i0,.int .i64 g,.float .f64 r,.string z,.slice ko keys.length kc,.slice vo kids.length vc]] w fun e w'=>KdPost pf ff S w w' kids 7 (.slice ko keys.length kc) (keys.length=kids.length∧KeysUp keys keys.length) e:=by
 have hcall:=fun (w1:World) (hg:w.grownBy w1 none)=>fk_any pf ff W0 kids hP hlen 7 8 i0 g r z ko keys.length kc ko vo keys.length kc vc S w1 (hV.keep (fun k hk=>⟨hk,hg.block k (hS k hk) (by simp)⟩)) hvc (fun k hk=>Nat.lt_of_lt_of_le (hS k hk) hg.size) (hE.grown0 hg);have hK1:=fun (w1:World) (hg:w.grownBy w1 none)=>hK.keep (S':=S) (w':=w1) (fun k hk=>⟨hk,hg.block k (hS k hk) (by simp)⟩);obtain⟨Hcall,HK1,HS,Hkk⟩:=xh4 hcall hK1 hS hkk;clear hcall hP hV hS hE hK hK1 hkk;obtain⟨vn,hvn⟩:∃n,n=kids.length:=⟨_,rfl⟩;obtain⟨kn,hkn⟩:∃n,n=keys.length:=⟨_,rfl⟩;rw[←hvn,←hkn]at Hcall⊢;rw[←hvn]at hvc hlen;rw[←hkn]at hkc hkl;have Hkn:=xhd hkn;clear hvn hkn
 by_cases hne:kn=vn
 ·subst hne
  obtain⟨hg0,hb0,hz0⟩:=fr_world w (.cells #[.int .i64 8,.int .i64 i0,.int .i64 g,.float .f64 r,.string z,.slice ko kn kc,.slice vo kn vc] 26);unfold Z30 at *;go_enter Tryz.func18,Tryz.ntmps18;go_wp2_with fail
  refine(only_all _ _ _ _ _ _ _ _ _ _ _ _).mono ?_;rintro e w1⟨⟨b,rfl⟩,hg1⟩;have hb1:=(hg1.block _ (xgl hb0) (by simp)).trans hb0;have hz1:=(hg1.block _ (xgl hz0) (by simp)).trans hz0;obtain⟨y0,y1,y2,y3,y4,y5,y6,yf⟩:=cells7 hb1;obtain⟨z0,z1,z2,z3,z4,z5,z6,zf⟩:=cells7 hz1;obtain⟨HZ,HBk⟩:=xh2 hz1 hb1;have HG:=xhd (hg0.trans hg1);clear hg0 hb0 hz0 hg1 hb1 hz1
  cases b
  ·go_wp2_with fail
   refine fr_ret rfl rfl HZ.out ?_;intro w' _ _ hgr
   first
    | exact⟨.null,false,rfl,hgr _ _ HG.out (by omega),fun h=>by cases h⟩
    | exact⟨_,false,rfl,⟨_,_,_,_,_,_,_,_,_,_,_,rfl⟩,hgr _ _ HG.out (by omega),fun h=>by cases h⟩
  ·go_wp2_with fail
   go_loopg [128] kn (fun gg t128 wr=>∃i,t128=.int .i64 (i:Nat)∧i≤kn∧gg=kn-i∧KeysUp keys i∧w1=wr)
   case atStart=>exact⟨0,rfl,Nat.zero_le _,rfl,⟨by simp,by simp⟩,rfl⟩
   case round =>
    obtain⟨i,rfl,hi,hgg,hup,rfl⟩:=hrel;obtain⟨Hgg,Hup⟩:=xh2 hgg hup;clear hgg hup
    by_cases hin:i<kn
    ·have hnm:(i:Int)<kn:=by omega
     have hwi:IntKind.i64.wrap ((i:Int)+1)=(i:Int)+1:=IntWalk.i64_in _ (by omega);obtain⟨k,hk⟩:∃k,keys[i]?=some k:=⟨_,List.getElem?_eq_getElem (by rw[←Hkn.out];exact hin)⟩;have hkl9:=Hkk.out k (List.mem_of_getElem? hk);have Hnm:=xhd (nameable_all k hkl9 w1);have Hsg:=xhd (signed_any w1 (bs k) k (bs_list k) (by rw[bs_size];omega));obtain⟨b0,j0,hko,hSb,e0⟩:=HK1.out w1 HG.out i k hk;subst hko
     have hprev:∀p,0<i→keys[i-1]?=some p→w1.cell? ⟨b0,j0+(i-1),none⟩=some (.string (bs p)):=fun p h0 hp=>by
      obtain⟨b1,j1,hko1,_,e1⟩:=HK1.out w1 HG.out (i-1) p hp;injection hko1 with hko1;injection hko1 with h1 h2 h3;subst h1;subst h2
      exact e1
     obtain⟨Hk,Hprev⟩:=xh2 hk hprev;have Hless:=xhd (fun p=>bs_less p k);obtain⟨zk,hzk⟩:∃z,z=bs k:=⟨_,rfl⟩;rw[←hzk]at Hnm Hsg e0 Hless;clear hk hprev hSb hkl9 hzk;go_wp2_with fail
     refine Hnm.out.mono ?_;rintro e w3⟨b,rfl,hw,hb⟩;subst w3;have Hb:=xhd hb;clear hb
     cases b
     ·go_wp2_with fail
      refine fr_ret rfl rfl HZ.out ?_;intro w' _ _ hgr;exact⟨_,false,rfl,⟨_,_,_,_,_,_,_,_,_,_,_,rfl⟩,hgr _ _ HG.out (by omega),fun h=>by cases h⟩
     ·go_wp2_with fail
      refine Hsg.out.mono ?_;rintro e w3⟨rfl,hw⟩;subst w3
      by_cases h35:(35:UInt8)∈k
      ·rw[decide_eq_true h35]
       clear h35;go_wp2_with fail
       refine fr_ret rfl rfl HZ.out ?_;intro w' _ _ hgr;exact⟨_,false,rfl,⟨_,_,_,_,_,_,_,_,_,_,_,rfl⟩,hgr _ _ HG.out (by omega),fun h=>by cases h⟩
      ·have H35:=xhd h35
       rw[decide_eq_false h35];clear h35
       by_cases hi0:i=0
       ·subst hi0
        go_wp2_with fail
        go_roundg (kn-(0+1))
        case measure=>rw[Hgg.out];omega
        case rel=>exact⟨0+1,by simp,by omega,rfl,Hup.out.step Hk.out H35.out (Hb.out (by trivial)) (fun p h=>absurd h (by omega)),rfl⟩
       ·obtain⟨j,hj⟩:∃j:Nat,i-1=j:=⟨_,rfl⟩
        obtain⟨p,hp⟩:∃p,keys[i-1]?=some p:=⟨_,List.getElem?_eq_getElem (by rw[←Hkn.out];omega)⟩;have e1:=Hprev.out p (by omega) hp;rw[hj]at e1;have hji:(i:Int)-1=(j:Int):=by omega
        have hip:0<(i:Int):=by omega
        have hjk:(j:Int)<kn:=by omega
        have hjk2:j<kn:=by omega
        have hls:=Hless.out p;obtain⟨zp,hzp⟩:∃z,z=bs p:=⟨_,rfl⟩;rw[←hzp]at e1 hls;obtain⟨Hp,Hls⟩:=xh2 hp hls;clear hp hls hzp hj hi0;rcases xbt (Op.bytesLess zp.toList zk.toList) with hcmp|hcmp
        ·have Hlt:=xhd (show p<k from of_decide_eq_true (Hls.out.symm.trans hcmp))
         go_wp2_with fail
         go_roundg (kn-(i+1))
         case measure=>rw[Hgg.out];omega
         case rel=>exact⟨i+1,by simp,by omega,rfl,Hup.out.step Hk.out H35.out (Hb.out (by trivial)) (fun q _ hq=>by rw[Hp.out]at hq;injection hq with hq;subst hq;exact Hlt.out),rfl⟩
        ·go_wp2_with fail
         refine fr_ret rfl rfl HZ.out ?_;intro w' _ _ hgr;exact⟨_,false,rfl,⟨_,_,_,_,_,_,_,_,_,_,_,rfl⟩,hgr _ _ HG.out (by omega),fun h=>by cases h⟩
    ·obtain rfl:i=kn:=by omega
     have hnm:¬(i:Int)<i:=by omega
     go_wp2_with fail
     refine(Hcall.out _ HG.out).mono ?_;rintro e w2⟨v,b,rfl,hsh,hg2,hb2⟩;obtain⟨sk,sn2,sg,sx,st,so1,sn1,sc1,so2,sn3,sc2,rfl⟩:=hsh;have Hb2:=xhd hb2;have hBl:=(xgl HZ.out);clear hb2;have Hgw:=xhd (show w1.grownBy w2 none from by first|exact hg2|exact(gr_drew (xgr _ _)).trans hg2|exact(gr_drewN (xgr _ _) _).trans hg2);have hz2:=(Hgw.out.block _ (xgl HZ.out) (by simp)).trans HZ.out;have hbk2:=(Hgw.out.block _ (xgl HBk.out) (by simp)).trans HBk.out;have HZ2:=xhd hz2;have HG2:=xhd (HG.out.trans Hgw.out);obtain⟨x0,x1,x2,x3,x4,x5,x6,xf⟩:=cells7 hz2;obtain⟨j0,j1,j2,j3,j4,j5,j6,jf⟩:=cells7 hbk2;clear hg2 hz2 hbk2
     clear y0 y1 y2 y3 y4 y5 y6 yf z0 z1 z2 z3 z4 z5 z6 zf;go_wp2_with fail
     refine fr_ret rfl rfl HZ2.out ?_;intro w' hk hsz hgr;refine⟨_,b,rfl,⟨_,_,_,_,_,_,_,_,_,_,_,rfl⟩,hgr _ _ HG2.out (by omega),fun h=>?_⟩;obtain⟨ps,vs,cells,S',himg,hok,hv,hsl,hO,hbd⟩:=Hb2.out h
     have hkp:∀k,S' k→w'.heap[k]?=w2.heap[k]?:=fun k hk'=>hk k (fun e=>by
      have h1:=hbd k hk';rcases h1.1 with h2|h2
      ·have:=HS.out k h2;omega
      ·omega)
     refine⟨⟨(by trivial),Hup.out⟩,ps,vs,S',himg,hok,hv,⟨cells,hsl.keep (fun k hk'=>⟨hk',hkp k hk'⟩),IsVs.keep (fun k hk'=>⟨hk',hkp k hk'⟩) _ _ hO⟩,fun k hk'=>?_⟩;have h1:=hbd k hk';exact⟨by rcases h1.1 with h2|h2;exact .inl h2;exact .inr (by omega),by rw[hsz];exact h1.2⟩
 ·have hneb:((kn:Int) != (vn:Int))=true:=by simp;omega
  obtain⟨hg0,hb0,hz0⟩:=fr_world w (.cells #[.int .i64 8,.int .i64 i0,.int .i64 g,.float .f64 r,.string z,.slice ko kn kc,.slice vo vn vc] 26);unfold Z30 at *;go_enter Tryz.func18,Tryz.ntmps18;go_wp2_with fail
  refine(only_all _ _ _ _ _ _ _ _ _ _ _ _).mono ?_;rintro e w1⟨⟨b,rfl⟩,hg1⟩;have hb1:=(hg1.block _ (xgl hb0) (by simp)).trans hb0;have hz1:=(hg1.block _ (xgl hz0) (by simp)).trans hz0;obtain⟨y0,y1,y2,y3,y4,y5,y6,yf⟩:=cells7 hb1;obtain⟨z0,z1,z2,z3,z4,z5,z6,zf⟩:=cells7 hz1;obtain⟨HZ,HBk⟩:=xh2 hz1 hb1;have HG:=xhd (hg0.trans hg1);clear hg0 hb0 hz0 hg1 hb1 hz1
  cases b
  ·go_wp2_with fail
   refine fr_ret rfl rfl HZ.out ?_;intro w' _ _ hgr
   first
    | exact⟨.null,false,rfl,hgr _ _ HG.out (by omega),fun h=>by cases h⟩
    | exact⟨_,false,rfl,⟨_,_,_,_,_,_,_,_,_,_,_,rfl⟩,hgr _ _ HG.out (by omega),fun h=>by cases h⟩
  ·go_wp2_with fail
   refine fr_ret rfl rfl HZ.out ?_;intro w' _ _ hgr;exact⟨_,false,rfl,⟨_,_,_,_,_,_,_,_,_,_,_,rfl⟩,hgr _ _ HG.out (by omega),fun h=>by cases h⟩
theorem fo_leaf9 {pf:By→Nat}{ff:Nat→By}{S:Nat→Prop}{w w':World}{o:OB}{e:Ending}{Q:PV→Prop}(h:LfPost w w' Q e)(hsh:o.keys=[]∧o.kids=[])(hQ:∀x,Q x→∃p,Img p o∧okS ff (RR pf ff) p∧x=valP p∧match valP p with | .arr _=>False | .dict _ _=>False|_=>True):FoPost pf ff S w w' o e:=by
 obtain⟨x,b,he,hg,hb⟩:=h;refine⟨_,b,he,⟨_,_,_,_,_,_,_,_,_,_,_,rfl⟩,hg,fun h=>?_⟩;obtain⟨p,h1,h2,h3,h4⟩:=hQ x (hb h);subst h3;have hsz:=szV_pos (valP p);obtain⟨k,i,g,r,t,keys,kids⟩:=o;simp only[OB.keys,OB.kids]at hsh;obtain⟨rfl,rfl⟩:=hsh;exact⟨p,nilS,nilS,fun _=>False,⟨h1,by simp[shB,shBs],by simpa[szB,szBs] using hsz⟩,h2,rfl,IsV.plain h4,fun k hk=>hk.elim⟩
theorem fo_bad (k i g:Int)(r:Nat)(z:ByteArray)(ko vo:Option Addr)(kn kc vn vc:Nat)(w:World)(hbad:¬okSh k kn vn) :
  Calls Tryz.prog 18 #[.agg #[.int .i64 k,.int .i64 i,.int .i64 g,.float .f64 r,.string z,.slice ko kn kc,.slice vo vn vc]] w fun e w'=>LfPost w w' (fun _=>False) e:=by
 have Hbad:=xhd hbad;clear hbad;obtain⟨hg0,hb0,hz0⟩:=fr_world w (.cells #[.int .i64 k,.int .i64 i,.int .i64 g,.float .f64 r,.string z,.slice ko kn kc,.slice vo vn vc] 26);unfold Z30 at *;go_enter Tryz.func18,Tryz.ntmps18;go_wp2_with fail
 refine(only_sh _ _ _ _ _ _ _ _ _ _ _ _).mono ?_;rintro e w1⟨⟨b,rfl,hb⟩,hg1⟩;have hb1:=(hg1.block _ (xgl hb0) (by simp)).trans hb0;have hz1:=(hg1.block _ (xgl hz0) (by simp)).trans hz0;obtain⟨y0,y1,y2,y3,y4,y5,y6,yf⟩:=cells7 hb1;obtain⟨z0,z1,z2,z3,z4,z5,z6,zf⟩:=cells7 hz1;obtain⟨HZ,HBk⟩:=xh2 hz1 hb1;have HG:=xhd (hg0.trans hg1);clear hg0 hb0 hz0 hg1 hb1 hz1
 cases b
 ·clear hb
  go_wp2_with fail
  refine fr_ret rfl rfl HZ.out ?_;intro w' _ _ hgr;exact⟨.null,false,rfl,hgr _ _ HG.out (by omega),fun h=>by cases h⟩
 ·exact absurd (hb rfl) Hbad.out
theorem fo_all (pf:By→Nat)(ff:Nat→By)(W0:World)(hpf:PFC pf W0)(hff:FfAll ff W0):∀(n:Nat) (o:OB),lvB o≤n→FoC pf ff W0 o:=by
 intro n
 induction n with
 | zero=>intro o hl;cases o;simp only[lvB]at hl;omega
 | succ n ih =>
  intro o hlv S w ks vs hwf hI hS hE;obtain⟨ko,kc,vo,vc,rfl,rfl,hm1,hm2,hm3,hm4,hK,hV⟩:=hI.view;obtain⟨hr,ht,hkl,hkk,hvl,hwk⟩:=wf_all hwf;have hkid:∀p∈o.kids,FoC pf ff W0 p∧wfB p:=fun p hp=>⟨ih p (by have:=lv_kid hp;omega),hwk p hp⟩;obtain⟨k,i,g,r,t,keys,kids⟩:=o;simp only[OB.keys,OB.kids,OB.t,OB.r]at *;unfold obV;simp only[OB.k,OB.i,OB.g,OB.r,OB.t,OB.keys,OB.kids]
  by_cases hsp:okSh k keys.length kids.length
  rotate_left
  ·refine(fo_bad k i g r (bs t) ko vo _ kc _ vc w hsp).mono fun e w' h=>?_
   obtain⟨x,b,he,hg,hb⟩:=h;exact⟨_,b,he,⟨_,_,_,_,_,_,_,_,_,_,_,rfl⟩,hg,fun h=>(hb h).elim⟩
  have hle:k≠8→k≠7→keys=[]∧kids=[]:=fun h8 h7=>by
   obtain⟨h1,h2⟩:=hsp;exact⟨List.eq_nil_of_length_eq_zero (by omega),List.eq_nil_of_length_eq_zero (by omega)⟩
  by_cases k0:k=0
  ·subst k0
   exact(fo_null i g r (bs t) ko vo _ kc _ vc w).mono fun e w' h=>fo_leaf9 h (hle (by omega) (by omega)) (fun x hx=>⟨.null,by simp[Img,OB.k],⟨by simp[okR],by simp[srP]⟩,hx,trivial⟩)
  by_cases k1:k=1
  ·subst k1
   refine(fo_bool i g r (bs t) ko vo _ kc _ vc w).mono fun e w' h=>fo_leaf9 h (hle (by omega) (by omega)) ?_;rintro x⟨rfl,hi|hi⟩
   ·exact⟨.bool false,by simp[Img,OB.k,OB.i,hi],⟨by simp[okR],by simp[srP]⟩,by simp[valP,hi],trivial⟩
   ·exact⟨.bool true,by simp[Img,OB.k,OB.i,hi],⟨by simp[okR],by simp[srP]⟩,by simp[valP,hi],trivial⟩
  by_cases k2:k=2
  ·subst k2
   refine(fo_int i g r (bs t) ko vo _ kc _ vc w).mono fun e w' h=>fo_leaf9 h (hle (by omega) (by omega)) ?_;rintro x⟨rfl,h1,h2⟩;exact⟨.int i,by simp[Img,OB.k,OB.i],⟨by simp only[okR];omega,by simp[srP]⟩,rfl,trivial⟩
  by_cases k3:k=3
  ·subst k3
   refine(fo_real i g r ko vo _ kc _ vc w (bs t) pf ff W0 hpf hff hr hE).mono fun e w' h=>fo_leaf9 h (hle (by omega) (by omega)) ?_;rintro x⟨rfl,h1,h2,h3⟩;exact⟨.real r,by simp[Img,OB.k,OB.r],⟨by simp only[okR];exact⟨h1,h2,hr,h3⟩,by simp[srP]⟩,rfl,trivial⟩
  by_cases k4:k=4
  ·subst k4
   refine(fo_lit i g r ko vo _ kc _ vc w t ht).mono fun e w' h=>fo_leaf9 h (hle (by omega) (by omega)) ?_;rintro x⟨q,rfl,h1⟩;exact⟨.lit t,by simp[Img,OB.k,OB.t],⟨by simp only[okR];exact⟨q,h1⟩,by simp[srP]⟩,by simp only[valP,litT,h1],trivial⟩
  by_cases k5:k=5
  ·subst k5
   refine(fo_hexl i g r ko vo _ kc _ vc w t ht).mono fun e w' h=>fo_leaf9 h (hle (by omega) (by omega)) ?_;rintro x⟨rfl,h1⟩;exact⟨.hexl t,by simp[Img,OB.k,OB.t],⟨by simp only[okR];exact h1,by simp[srP]⟩,rfl,trivial⟩
  by_cases k6:k=6
  ·subst k6
   refine(fo_name i g r ko vo _ kc _ vc w t ht).mono fun e w' h=>fo_leaf9 h (hle (by omega) (by omega)) ?_;rintro x⟨rfl,h1⟩;exact⟨.name t,by simp[Img,OB.k,OB.t],⟨by simp only[okR];exact h1,by simp[srP]⟩,rfl,trivial⟩
  by_cases k9:k=9
  ·subst k9
   refine(fo_ref i g r (bs t) ko vo _ kc _ vc w).mono fun e w' h=>fo_leaf9 h (hle (by omega) (by omega)) ?_;rintro x⟨rfl,h1,h2,h3,h4⟩;exact⟨.ref i g,by simp[Img,OB.k,OB.i,OB.g],⟨by simp only[okR];omega,by simp[srP]⟩,rfl,trivial⟩
  by_cases k7:k=7
  ·subst k7
   refine(fo_arr pf ff W0 kids hkid hvl i g r (bs t) ko vo _ kc vc S w hV hm4 hS hE).mono fun e w' h=>?_;obtain⟨v,b,he,hsh,hg,hb⟩:=h;refine⟨v,b,he,hsh,hg,fun hbt=>?_⟩;obtain⟨-,ps,vs,S',himg,hok,rfl,⟨cells,hsl,hO⟩,hbd⟩:=hb hbt;refine⟨.arr ps,.slice none 0 0,vs,S',⟨by simp only[Img];exact⟨rfl,himg.1⟩,by simp only[shB];exact⟨by have:=hsp.1;omega,himg.2.1⟩,by have:=himg.2.2;simp only[szB,valP,szV];omega⟩,⟨by simp only[okR];exact hok.1,by simp only[srP];exact hok.2⟩,rfl,?_,hbd⟩;simp only[valP,IsV];exact⟨SlAt.nil _ _ _,cells,hsl,hO⟩
  by_cases k8:k=8
  ·subst k8
   refine(fo_dict pf ff W0 keys kids hkid hvl hkl hkk i g r (bs t) ko vo kc vc S w hK hV hm3 hm4 hS hE).mono fun e w' h=>?_;obtain⟨v,b,he,hsh,hg,hb⟩:=h;refine⟨v,b,he,hsh,hg,fun hbt=>?_⟩;obtain⟨⟨hkl2,hup⟩,ps,vs,S',himg,hok,rfl,⟨cells,hsl,hO⟩,hbd⟩:=hb hbt;have hup1:=hup.1;have hup2:=hup.2;rw[List.take_length]at hup1 hup2;have hpl:=Imgs.len himg.1;refine⟨.dict keys ps,.slice ko keys.length kc,vs,fun k=>S' k∨S k,⟨by simp only[Img];exact⟨rfl,rfl,himg.1⟩,by simp only[shB];exact⟨by omega,himg.2.1⟩,by have:=himg.2.2;simp only[szB,valP,szV];omega⟩,⟨by simp only[okR];exact⟨by omega,KeysUp.nodup hup2,hup1,hok.1⟩,by simp only[srP];exact⟨hup2,hok.2⟩⟩,rfl,?_,?_⟩
   ·simp only[IsB]at hI
    simp only[valP,IsV];refine⟨hI.1.keep (fun k hk=>⟨.inr hk,hg.block k (hS k hk) (by simp)⟩),cells,hsl.keep (fun k hk=>⟨.inl hk,rfl⟩),IsVs.keep (fun k hk=>⟨.inl hk,rfl⟩) _ _ hO⟩
   ·intro k hk
    rcases hk with hk|hk
    ·exact hbd k hk
    ·exact⟨.inl hk,Nat.lt_of_lt_of_le (hS k hk) hg.size⟩
  refine(fo_none i g r (bs t) ko vo _ kc _ vc w k ⟨by simpa using k0,by simpa using k1,by simpa using k2,by simpa using k3,by simpa using k4,by simpa using k5,by simpa using k6,by simpa using k9,by simpa using k7,by simpa using k8⟩).mono fun e w' h=>fo_leaf9 h (hle (by omega) (by omega)) (fun x hx=>hx.elim)
def F7Post (pf:By→Nat)(ff:Nat→By)(S:Nat→Prop)(w w':World)(o:OB)(e:Ending):Prop :=
 ∃(v:Value) (b:Bool),e=.returned (.tuple #[v,.bool b])∧Shape7 v∧w.grownBy w' none ∧
  (b=true→(fwB o≤4611686018427387904→fwB o≤20000)∧∃(p:PO) (ks vs:Value) (S':Nat→Prop),Img2 p o∧okS ff (RR pf ff) p∧v=valOf (valP p) ks vs∧IsV S' w' (valP p) ks vs∧(∀k,S' k→(S k∨w.heap.size≤k)∧k<w'.heap.size))
theorem fo_ret2 {w3:World}{B:Nat}{a0 a1 a2 a3 a4 a5 a6 v0 v1 v2 v3 v4 v5 v6 u3:Value}{tmps:Array Value}{R:Ending→World→Prop}(h2:tmps.getD 2 undef=.pointer (some ⟨B,0,none⟩))(h3:tmps.getD 3 undef=u3)
  (hz:w3.heap[B]?=some (.cells #[a0,a1,a2,a3,a4,a5,a6] 30 (0,0)))
  (hR:∀w',(∀k,k≠B→w'.heap[k]?=w3.heap[k]?)→w'.heap.size=w3.heap.size→(∀w0 r,World.grownBy w0 w3 r→w0.heap.size≤B→World.grownBy w0 w' r)→R (.returned (.tuple #[.agg #[v0,v1,v2,v3,v4,v5,v6],u3])) w'):bodyPost Tryz.prog Tryz.f7 R Exit.ret { tmps:=tmps,defers:=[] } (set7 w3 B v0 v1 v2 v3 v4 v5 v6):=by
 have hz4:=set7_at hz v0 v1 v2 v3 v4 v5 v6;have hR4:=hR _ (fun k hk=>set7_other w3 B k v0 v1 v2 v3 v4 v5 v6 hk) (set7_size w3 B v0 v1 v2 v3 v4 v5 v6) (fun w0 r hg hB=>set7_gr hg hB v0 v1 v2 v3 v4 v5 v6);generalize set7 w3 B v0 v1 v2 v3 v4 v5 v6=w4 at *;obtain⟨y0,y1,y2,y3,y4,y5,y6,yf⟩:=cells7 hz4;simp only[Array.getD_eq_getD_getElem?]at h2 h3;exact bodyPost_ret (v:=.tuple #[.agg #[v0,v1,v2,v3,v4,v5,v6],u3]) (by simp[results,Tryz.results7,go_sem,h2,h3,y0,y1,y2,y3,y4,y5,y6]) rfl hR4
theorem f7_any (pf:By→Nat)(ff:Nat→By)(W0:World)(hpf:PFC pf W0)(hff:FfAll ff W0)(o:OB)(S:Nat→Prop)(w:World)(ks vs:Value)(hwf:wfB o)(hI:IsB S w o ks vs)(hS:∀k,S k→k<w.heap.size)(hE:Env W0 w) :
  Calls Tryz.prog 7 #[obV o ks vs] w fun e w'=>F7Post pf ff S w w' o e:=by
 obtain⟨ko,kc,vo,vc,rfl,rfl,-⟩:=hI.slices;obtain⟨a0,a1,a2,a3⟩:=alloc3 w (.cells #[.int .i64 o.k,.int .i64 o.i,.int .i64 o.g,.float .f64 o.r,.string (bs o.t),.slice ko o.keys.length kc,.slice vo o.kids.length vc] 26) Z30 (.cells #[.int .i64 20000] 3);have hg0:w.grownBy (((w.alloc (.cells #[.int .i64 o.k,.int .i64 o.i,.int .i64 o.g,.float .f64 o.r,.string (bs o.t),.slice ko o.keys.length kc,.slice vo o.kids.length vc] 26)).alloc Z30).alloc (.cells #[.int .i64 20000] 3)) none:=gr_alloc (gr_alloc (gr_alloc (xgr w none) _) _) _;obtain⟨W,hW⟩:∃W,W=(((w.alloc (.cells #[.int .i64 o.k,.int .i64 o.i,.int .i64 o.g,.float .f64 o.r,.string (bs o.t),.slice ko o.keys.length kc,.slice vo o.kids.length vc] 26)).alloc Z30).alloc (.cells #[.int .i64 20000] 3)):=⟨_,rfl⟩;rw[←hW]at a0 a1 a2 hg0;have hfew:=few_all (lvB o) o (Nat.le_refl _) S W _ _ (w.heap.size+1+1) 20000 hwf (IsB.keep (fun k hk=>⟨hk,hg0.block k (hS k hk) (by simp)⟩) _ _ _ hI) (fun k hk=>by have:=hS k hk;have:=hg0.size;omega) a2 (by omega) (by omega);have hfo:=fun (w2:World) (hg:w.grownBy w2 none)=>fo_all pf ff W0 hpf hff (lvB o) o (Nat.le_refl _) S w2 _ _ hwf (IsB.keep (fun k hk=>⟨hk,hg.block k (hS k hk) (by simp)⟩) _ _ _ hI) (fun k hk=>Nat.lt_of_lt_of_le (hS k hk) hg.size) (hE.grown0 hg);obtain⟨Hfo,HS⟩:=xh2 hfo hS;unfold obV at hfew Hfo⊢;obtain⟨F,hF⟩:∃F,F=fwB o:=⟨_,rfl⟩;rw[←hF]at hfew;have HF:=xhd hF;clear hfo hS hI hE hpf hff hF hwf;unfold Z30 at hW a1;generalize o.k=k1 at *;generalize o.i=k2 at *;generalize o.g=k3 at *
 generalize o.r=k4 at *;generalize bs o.t=k5 at *;generalize o.keys.length=k6 at *;generalize o.kids.length=k7 at *;obtain⟨Hfew,Hz,Hb,Hg0⟩:=xh4 hfew a1 a0 hg0;clear hfew a0 a1 a2 a3 hg0;go_enter Tryz.func7,Tryz.ntmps7;go_wp2_with fail
 rw[←hW];clear hW;refine Hfew.out.mono ?_;rintro e w1⟨b,L',rfl,hc1,hg1,hb1⟩;have hbk1:=(hg1.block _ (xgl Hb.out) (by simp;omega)).trans Hb.out;have hz1:=(hg1.block _ (xgl Hz.out) (by simp)).trans Hz.out;have hG1:w.grownBy w1 none:=gr_noneThen Hg0.out hg1 (fun k hk=>by injection hk with hk;omega);obtain⟨y0,y1,y2,y3,y4,y5,y6,yf⟩:=cells7 hbk1;obtain⟨z0,z1,z2,z3,z4,z5,z6,zf⟩:=cells7 hz1;obtain⟨HZ1,HG1,Hb1⟩:=xh3 hz1 hG1 hb1;clear hbk1 hz1 hG1 hc1 hg1 hb1
 cases b
 ·go_wp2_with fail
  refine fo_ret rfl rfl HZ1.out ?_;intro w' hgr;exact⟨_,false,rfl,⟨_,_,_,_,_,_,_,_,_,_,_,rfl⟩,hgr _ _ HG1.out (by omega),fun h=>by cases h⟩
 ·have hfw:fwB o≤4611686018427387904→fwB o≤20000:=fun h=>by obtain⟨⟨k,h1⟩,h2,h3⟩:=Hb1.out rfl;have:=HF.out;omega
  go_wp2_with fail
  refine(Hfo.out w1 HG1.out).mono ?_;rintro e w2⟨v,b,rfl,hsh,hg2,hb2⟩;obtain⟨sk,sn2,sg,sx,st,so1,sn1,sc1,so2,sn3,sc2,rfl⟩:=hsh;have hz2:=(hg2.block _ (xgl HZ1.out) (by simp)).trans HZ1.out;have HZ2:=xhd hz2;have HG2:=xhd (HG1.out.trans hg2);have Hb2:=xhd hb2;have Hzl:=xhd (xgl HZ1.out);have Hfw:=xhd hfw;clear y0 y1 y2 y3 y4 y5 y6 yf z0 z1 z2 z3 z4 z5 z6 zf hb2 hg2 hfw;obtain⟨z0,z1,z2,z3,z4,z5,z6,zf⟩:=cells7 hz2;clear hz2;go_wp2_with fail
  refine fo_ret2 rfl rfl HZ2.out ?_;intro w' hk hsz hgr;refine⟨_,b,rfl,⟨_,_,_,_,_,_,_,_,_,_,_,rfl⟩,hgr _ _ HG2.out (by omega),fun h=>⟨Hfw.out,?_⟩⟩;obtain⟨p,ks,vs,S',himg,hok,hv,hV,hbd⟩:=Hb2.out h;refine⟨p,ks,vs,S',himg,hok,hv,IsV.keep (fun k hk'=>⟨hk',hk k (fun e=>?_)⟩) _ _ _ hV,fun k hk'=>?_⟩
  ·have h1:=hbd k hk'
   have:=Hzl.out;rcases h1.1 with h2|h2
   ·have:=HS.out k h2;omega
   ·omega
  ·have h1:=hbd k hk'
   exact⟨by rcases h1.1 with h2|h2;exact .inl h2;exact .inr (by have:=HG1.out.size;omega),by rw[hsz];exact h1.2⟩
theorem fits2_all (S:Nat→Prop)(w:World)(ko:Option Addr)(kc:Nat)(keys:List By)(hK:KeyAt S w ko keys)(hn:keys.length≤140737488351232)(hkc:keys.length≤kc)(hk:∀k∈keys,k.length≤140737488351232) :
  Calls Tryz.prog 16 #[.slice ko keys.length kc] w fun e w'=>(∃b,e=.returned (.bool b))∧w'=w:=by
 obtain⟨KN,hKN⟩:∃N,N=keys.length:=⟨_,rfl⟩;rw[←hKN]at hn hkc⊢;obtain⟨HKN,HK,Hk⟩:=xh3 hKN hK hk;clear hKN hK hk
 by_cases hn2:(2147483647:Int)<KN
 ·go_enter Tryz.func16,Tryz.ntmps16
  go_wp2_with fail
  go_ret;exact⟨by first|exact⟨_,rfl⟩|exact .inl rfl|exact .inr rfl,rfl⟩
 go_enter Tryz.func16,Tryz.ntmps16;go_wp2_with fail
 go_loopg [10] KN (fun g t10 wr=>∃(i:Nat),t10=.int .i64 (i:Nat)∧i≤KN∧g=KN-i∧w=wr)
 case atStart=>exact⟨0,rfl,Nat.zero_le _,rfl,rfl⟩
 case round =>
  obtain⟨i,rfl,hi,hg,rfl⟩:=hrel;have Hg:=xhd hg;clear hg
  by_cases hin:i<KN
  ·have hnm:(i:Int)<KN:=by omega
   have hwi:IntKind.i64.wrap ((i:Int)+1)=(i:Int)+1:=IntWalk.i64_in _ (by omega);obtain⟨k,hk⟩:∃k,keys[i]?=some k:=⟨_,List.getElem?_eq_getElem (by rw[←HKN.out];exact hin)⟩;obtain⟨b0,i0,hko,hSb,hkc2⟩:=HK.out i k hk;subst hko;have hzk:(bs k).size≤140737488351232:=by rw[bs_size];exact Hk.out k (List.mem_of_getElem? hk)
   generalize bs k=zk at *;clear hk hSb
   by_cases hz2:(2147483647:Int)<zk.size
   ·go_wp2_with fail
    go_ret;exact⟨by first|exact⟨_,rfl⟩|exact .inl rfl|exact .inr rfl,rfl⟩
   ·go_wp2_with fail
    go_roundg (KN-(i+1))
    case measure=>rw[Hg.out];omega
    case rel=>exact⟨i+1,by simp,by omega,rfl,rfl⟩
  ·obtain rfl:i=KN:=by omega
   have hnm:¬(i:Int)<i:=by omega
   go_wp2_with fail
   go_ret;exact⟨by first|exact⟨_,rfl⟩|exact .inl rfl|exact .inr rfl,rfl⟩
theorem fits1_all (o:OB)(S:Nat→Prop)(w:World)(ks vs:Value)(hwf:wfB o)(hI:IsB S w o ks vs)(hS:∀k,S k→k<w.heap.size) :
  Calls Tryz.prog 6 #[obV o ks vs] w fun e w'=>(∃b,e=.returned (.bool b))∧w.grownBy w' none:=by
 obtain⟨ko,kc,vo,vc,rfl,rfl,hm1,hm2,hm3,hm4,hK,hV⟩:=hI.view;obtain⟨-,htl,hkl,hkk,hvl,-⟩:=wf_all hwf;have h2:=fun (w2:World) (hg:w.grownBy w2 none)=>fits2_all S w2 ko kc o.keys (hK.keep (fun k hk=>⟨hk,hg.block k (hS k hk) (by simp)⟩)) hkl hm3 hkk;have hz:(bs o.t).size≤140737488351232:=by rw[bs_size];exact htl
 unfold obV;have H2:=xhd h2;clear hK hV htl hkk h2 hS hI hm1 hm2 hm3 hm4 hwf;generalize o.k=k1 at *;generalize o.i=k2 at *;generalize o.g=k3 at *;generalize o.r=k4 at *;generalize bs o.t=z at *;generalize o.keys.length=KN at *;generalize o.kids.length=VN at *;have hg0:=xhd (gr_alloc (xgr w none) (.cells #[.int .i64 k1,.int .i64 k2,.int .i64 k3,.float .f64 k4,.string z,.slice ko KN kc,.slice vo VN vc] 26))
 by_cases hz2:(2147483647:Int)<z.size
 ·go_enter Tryz.func6,Tryz.ntmps6
  go_wp2_with fail
  go_ret;exact⟨by first|exact⟨_,rfl⟩|exact .inl rfl|exact .inr rfl,hg0.out⟩
 go_enter Tryz.func6,Tryz.ntmps6;go_wp2_with fail
 refine(H2.out _ hg0.out).mono ?_;rintro e w1⟨⟨b,rfl⟩,hw⟩;subst w1
 cases b
 ·go_wp2_with fail
  go_ret;exact⟨by first|exact⟨_,rfl⟩|exact .inl rfl|exact .inr rfl,hg0.out⟩
 by_cases hz3:(2147483647:Int)<VN
 ·go_wp2_with fail
  go_ret;exact⟨by first|exact⟨_,rfl⟩|exact .inl rfl|exact .inr rfl,hg0.out⟩
 ·go_wp2_with fail
  go_ret;exact⟨by first|exact⟨_,rfl⟩|exact .inl rfl|exact .inr rfl,hg0.out⟩
end Go.Proofs.YtfkecmlmnhbmoaaGreatDoor
