/- Parts B7 C1 C2 P16 P21 P17. -/
import Derived.Test.YtfkecmlmnhbmoaaGreatDoorW20
set_option linter.unusedVariables false
set_option linter.unusedSimpArgs false
set_option maxRecDepth 100000
set_option maxHeartbeats 40000000
namespace Go.Proofs.YtfkecmlmnhbmoaaGreatDoor
open Go Go.RowKit
def ValB:Prop:=∀(w:World) (b:Nat) (s:ByteArray) (p l:By) (bad deep:Int) (odd ends:Bool),s.size≤1000000000→RdAt w b s p l bad deep odd ends→bad≠0 →
 Calls Tryz.prog 28 #[.pointer (some ⟨b,0,none⟩)] w fun e w'=>e=.returned zeroV∧(∃p' l' o',RdAt w' b s p' l' bad deep o' ends)∧w.grownBy w' (some b)
theorem RdAt.skip2 {w:World}{b:Nat}{s:ByteArray}{p l:By}{bad deep:Int}{odd ends:Bool}{c d:UInt8}(h:RdAt w b s p (c::d::l) bad deep odd ends) :
  RdAt (w.setCell ⟨b,1,Option.none⟩ (.int .i64 (p.length+2))) b s (p++[c,d]) l bad deep odd ends:=by
 have:=h.jump (P2:=p++[c,d]) (r:=l) (by rw[h.1];simp);simpa using this
theorem Tryz.info9:(Tryz.prog.info? 9).map (fun i=>(i.zero,i.size,i.bytes))=some (some (.string ⟨#[]⟩),1,16):=by kernel_rfl
theorem row_len {w:World}{base:Nat}{e:TypeId}{size:Nat}{o:Option Addr}{n c m:Nat}{xs:List Value}(h:w.ownsRow base e size (.slice o n c) m xs):n=m:=by
 rcases h.2 with⟨hv,hm⟩|⟨g,cap,cur,hv,_⟩
 ·injection hv with _ h1 _;omega
 ·injection hv with _ h1 _
theorem row_cell {w:World}{base:Nat}{e:TypeId}{o:Option Addr}{n c m i:Nat}{xs:List Value}{u:Value}(h:w.ownsRow base e 1 (.slice o n c) m xs)(hu:xs[i]?=some u):∃g,o=some ⟨g,0,none⟩∧w.cell? ⟨g,i,none⟩=some u:=by
 obtain⟨h1,h2⟩:=h;have hi:i<xs.length:=(List.getElem?_eq_some_iff.1 hu).1;rcases h2 with⟨hv,hm⟩|⟨g,cap,cur,hv,hb,hg,hc,hm,hs,ht⟩
 ·subst hm;simp at h1;subst h1;simp at hi
 ·injection hv with h3 _ _
  refine⟨g,h3,?_⟩
  have hj2:cur.toList[i]?=some u:=by
   rw[←ht,List.getElem?_take]at hu
   split at hu
   ·exact hu
   ·simp at hu
  have hj3:cur[i]?=some u:=by simpa using hj2
  simp[World.cell?,hg,hj3]
theorem bytes_eq {a b:ByteArray}(h:a.data.toList=b.data.toList):a=b:=by
 obtain⟨⟨a⟩⟩:=a;obtain⟨⟨b⟩⟩:=b;simp only at h;rw[h]
theorem failB_ne (bad what:Int)(h:what≠0):failB bad what≠0:=by unfold failB;split<;>assumption
theorem notin_take {keys:List By}{i:Nat}{key:By}(h:i<keys.length):key∉keys.take (i+1)↔key∉keys.take i∧keys[i]≠key:=by
 rw[←List.take_append_getElem h,List.mem_append];simp only[List.mem_singleton]
 constructor
 ·intro e;exact⟨fun x=>e (.inl x),fun x=>e (.inr x.symm)⟩
 ·rintro⟨e1,e2⟩ (e|e)
  ·exact e1 e
  ·exact e2 e.symm
theorem value_bad {pf:By→Nat}{W0 w:World}{n:Nat}(hV:ValC pf W0 n)(hVB:ValB){b:Nat}{s:ByteArray}{p l:By}{bad:Int}{odd ends:Bool}(hE:Env W0 w)(hW0:W0.heap.size≤b)(hs:s.size≤1000000000)(hR:RdAt w b s p l bad (50-n) odd ends)(hn:n≤50)(h:bad≠0∨bad=0∧rdV pf n l odd=none) :
  Calls Tryz.prog 28 #[.pointer (some ⟨b,0,none⟩)] w fun e w'=>VPost w w' b s (50-n) ends e none:=by
 rcases h with h|⟨rfl,h⟩
 ·refine(hVB w b s p l bad (50-n) odd ends hs hR h).mono ?_
  rintro e w'⟨rfl,⟨p',l',o',hR'⟩,hg⟩;exact⟨zeroV,rfl,⟨_,_,_,_,_,_,_,_,_,_,_,rfl⟩,⟨p',l',o',bad,ends,h,hR'⟩,hg⟩
 ·have:=hV w b s p l odd ends hE hW0 hs hR hn
  rwa [h]at this
theorem nameB_len:∀(n:Nat) (l out r:By),l.length≤n→nameB l out=some r→r.length≤out.length+l.length:=by
 intro n
 induction n with
 | zero =>
  intro l out r hl h;obtain rfl:l=[]:=List.eq_nil_of_length_eq_zero (by omega);simp[nameB]at h;subst h;simp
 | succ n ih =>
  intro l out r hl h
  match l with
  | []=>simp[nameB]at h;subst h;simp
  | c :: l =>
   rcases xbt ((c.toNat:Int) != 35) with h1|h1
   ·rw[nameB_plain h1]at h
    have:=ih l _ _ (by simp at hl;omega) h;simp at this⊢;omega
   ·match l with
    | []=>rw[nameB_1 h1]at h;simp at h
    | [a]=>rw[nameB_2 h1]at h;simp at h
    | a :: b :: l =>
     rw[nameB_3 h1]at h
     split at h
     ·simp at h
     ·split at h
      ·simp at h
      ·have:=ih l _ _ (by simp at hl;omega) h
       simp at this⊢;omega
def DictI (w wr:World)(b:Nat)(s:ByteArray)(deep:Int)(ends:Bool)(f:By→Bool→Rd PV)(R:Rd (List By×List PV))(g:Nat):Prop :=
 (∃ko kn kc so sn sc p' l' o' m keys acc S cells,ColG w wr b 7 (.slice ko kn kc) (.slice so sn sc) keys acc S cells∧g=l'.length+1∧l'.length≤m∧acc.length+l'.length≤s.size∧keys.length=acc.length∧rdDict f m l' o' keys acc=R∧RdAt wr b s p' l' 0 deep o' ends)
 ∨ (R=none∧g=0∧w.grownBy wr (some b)∧wr.heap[w.heap.size]?=some (.cells #[.int .i64 0,.int .i64 0,.int .i64 0,.float .f64 0,.string ⟨#[]⟩,.slice none 0 0,.slice none 0 0] 30 (0,0))∧(∃ko kn kc so sn sc,wr.heap[w.heap.size+1]?=some (AB 7 (.slice ko kn kc) (.slice so sn sc)))∧∃p' l' o' bad en',bad≠0∧RdAt wr b s p' l' bad deep o' en')
theorem pre2 (n:UInt8)(l:By):[n,n].isPrefixOf l=is2 l (n.toNat:Int):=by
 have key:∀c:UInt8,(n==c)=((c.toNat:Int)==(n.toNat:Int)):=by
  intro c;rw[Bool.eq_iff_iff];simp only[beq_iff_eq]
  constructor
  ·intro e;rw[e]
  ·intro e;apply UInt8.toNat_inj.1;omega
 cases l with
 | nil=>rfl
 | cons c l =>
  cases l with
  | nil=>simp[List.isPrefixOf,is2]
  | cons d l=>simp only[List.isPrefixOf,is2,Bool.and_true,key]
theorem rdDict_end {f:By→Bool→Rd PV}{m:Nat}{l la:By}{o oa:Bool}{ks:List By}{acc:List PV}(h1:passM false l o=(la,oa))(h2:is2 la 62=true):rdDict f (m+1) l o ks acc=some ((ks,acc),la.tail.tail,oa):=by
 simp only[rdDict,h1,h2,if_true]
theorem rdDict_else {f:By→Bool→Rd PV}{m:Nat}{l la:By}{o oa:Bool}{ks:List By}{acc:List PV}(h1:passM false l o=(la,oa))(h2:is2 la 62=false)(h3:headIs la (· == 47)=false):rdDict f m l o ks acc=none:=by
 cases m with
 | zero=>rfl
 | succ m=>simp only[rdDict,h1,h2,h3];rfl
theorem rdDict_noname {f:By→Bool→Rd PV}{m:Nat}{l l2:By}{c:UInt8}{o oa:Bool}{ks:List By}{acc:List PV}(h1:passM false l o=(c::l2,oa))(h2:is2 (c::l2) 62=false)(h4:nameB (wordT l2) []=none):rdDict f m l o ks acc=none:=by
 cases m with
 | zero=>rfl
 | succ m=>simp[rdDict,h1,h2,h4]
theorem rdDict_badkey {f:By→Bool→Rd PV}{m:Nat}{l l2:By}{c:UInt8}{o oa:Bool}{ks:List By}{acc:List PV}{k:By}(h1:passM false l o=(c::l2,oa))(h2:is2 (c::l2) 62=false)(h4:nameB (wordT l2) []=some k)(h5:35∈k∨k∈ks):rdDict f m l o ks acc=none:=by
 cases m with
 | zero=>rfl
 | succ m=>simp[rdDict,h1,h2,h4,h5]
theorem rdDict_noval {f:By→Bool→Rd PV}{m:Nat}{l l2:By}{c:UInt8}{o oa:Bool}{ks:List By}{acc:List PV}{k:By}(h1:passM false l o=(c::l2,oa))(h2:is2 (c::l2) 62=false)(h4:nameB (wordT l2) []=some k)(h6:f (wordR l2) (wordO l2 oa)=none):rdDict f m l o ks acc=none:=by
 cases m with
 | zero=>rfl
 | succ m=>simp[rdDict,h1,h2,h4,h6]
theorem rdDict_some {f:By→Bool→Rd PV}{m:Nat}{l l2:By}{c:UInt8}{o oa:Bool}{ks:List By}{acc:List PV}{k:By}{x:PV}{r:By}{o2:Bool}(h1:passM false l o=(c::l2,oa))(h2:is2 (c::l2) 62=false)(h3:headIs (c::l2) (· == 47)=true)(h4:nameB (wordT l2) []=some k)(h5:¬(35∈k∨k∈ks))(h6:f (wordR l2) (wordO l2 oa)=some (x,r,o2)) :
  rdDict f (m+1) l o ks acc=rdDict f m r o2 (ks++[k]) (acc++[x]):=by
 simp only[rdDict,h1,h2,h3,List.tail_cons,h4,if_neg h5,h6];rfl
theorem val1_d (w:World)(b bx:Nat)(deep:Int)(u:FrameMode)(hx:w.cell? ⟨bx,0,none⟩=some (.pointer (some ⟨b,0,none⟩)))(h3:w.cell? ⟨b,3,none⟩=some (.int .i64 deep))(hf:w.frozen? ⟨b,3,none⟩=false)(hd1:-1000≤deep)(hd2:deep≤1000) :
  CallsD Tryz.prog 44 #[.pointer (some ⟨bx,0,none⟩)] u w fun e u' w'=>u'=u∧(e=.returned (.tuple #[])∧w'=w.setCell ⟨b,3,none⟩ (.int .i64 (deep-1))):=by
 go_enter_d Tryz.func44,Tryz.ntmps44
 go_wp2_with fail
 go_end0;exact⟨rfl,rfl⟩
theorem valB_any:ValB:=by
 intro w b s p l bad deep odd ends hs hR hbad;have hbd:(bad != 0)=true:=by simpa using hbad
 have hbB:=hR.lt;obtain⟨HR,Hbad⟩:=xh2 hR hbad;clear hR hbad
 have hal:=alloc2 w w.heap.size rfl (.cells #[.pointer (some ⟨b,0,none⟩)] 55 (0,0)) (.cells #[.int .i64 0,.int .i64 0,.int .i64 0,.float .f64 0,.string ⟨#[]⟩,.slice none 0 0,.slice none 0 0] 30 (0,0));have hmf:∀(fn:Fn) (first cap:Array Value) (w:World),(Instr.makeFunc fn first cap).run Tryz.prog w=.ok (.func fn first cap) w:=fun _ _ _ _=>rfl
 go_enter_defers Tryz.func28,Tryz.ntmps28
 go_wp2_with fail
 refine(pass_any _ b s p l bad deep odd ends (by exact(HR.out.alloc _).alloc _) (by omega)).mono ?_;rintro e w1⟨rfl,⟨p1,hR1⟩,hg1⟩;have hb1:=keep hg1 hal.1 (by simp;omega);have hb2:=keep hg1 hal.2 (by simp;omega);have d0:w1.cell? ⟨w.heap.size,0,none⟩=some (.pointer (some ⟨b,0,none⟩)):=by simp[World.cell?,hb1]
 obtain⟨z0,z1,z2,z3,z4,z5,z6,zf⟩:=zb_cells hb2;obtain⟨c0,c1,c2,c3,c4,c5,cf⟩:=hR1.cells;have hbz:¬b=w.heap.size+1:=by omega
 have hbz2:¬w.heap.size=w.heap.size+1:=by omega
 have HG1:=xhd (gr_same (gr_alloc (gr_alloc (xgr w (some b)) _) _) hg1);have HR1:=xhd hR1;clear hR1
 clear hg1 hal hb1 hb2;go_wp2_with fail
 refine Exists.intro zeroV ⟨by simp[results,Tryz.results28,go_sem,zeroV,z0,z1,z2,z3,z4,z5,z6,hbz2],?_⟩;exact⟨rfl,⟨p1,(passM false l odd).1,(passM false l odd).2,(by repeat (first|with_reducible exact HR1.out|with_reducible apply RdAt.alloc|with_reducible apply RdAt.set4|((with_reducible refine RdAt.setO ?_ ?_ _ _);rotate_left;(first|omega|(simp;omega)))))⟩,(by repeat (first|with_reducible exact HG1.out|with_reducible apply gr_alloc|with_reducible apply gr_drewN|with_reducible apply gr_drew|with_reducible apply gr_set|((with_reducible refine gr_setM ?_ ?_ _ _);rotate_left;(first|omega|(simp;omega)))))⟩
def set7 (w:World)(B:Nat)(v0 v1 v2 v3 v4 v5 v6:Value):World :=
 ((((((w.setCell ⟨B,0,none⟩ v0).setCell ⟨B,1,none⟩ v1).setCell ⟨B,2,none⟩ v2).setCell ⟨B,3,none⟩ v3).setCell ⟨B,4,none⟩ v4).setCell ⟨B,5,none⟩ v5).setCell ⟨B,6,none⟩ v6
theorem set7_other (w:World)(B k:Nat)(v0 v1 v2 v3 v4 v5 v6:Value)(h:k≠B):(set7 w B v0 v1 v2 v3 v4 v5 v6).heap[k]?=w.heap[k]?:=by
 unfold set7
 repeat rw[Below.heap_setCell _ _ _ _ (by simpa using h)]
theorem set7_at {w:World}{B:Nat}{a0 a1 a2 a3 a4 a5 a6:Value}{e:TypeId}(h:w.heap[B]?=some (.cells #[a0,a1,a2,a3,a4,a5,a6] e (0,0)))(v0 v1 v2 v3 v4 v5 v6:Value):(set7 w B v0 v1 v2 v3 v4 v5 v6).heap[B]?=some (.cells #[v0,v1,v2,v3,v4,v5,v6] e (0,0)):=by
 simp[set7,World.setCell,Array.getElem?_modify,h]
theorem set7_gr {w w3:World}{r:Option Nat}(h:w.grownBy w3 r){B:Nat}(hB:w.heap.size≤B)(v0 v1 v2 v3 v4 v5 v6:Value):w.grownBy (set7 w3 B v0 v1 v2 v3 v4 v5 v6) r:=by
 unfold set7
 repeat' apply gr_setM
 all_goals first|exact h|exact hB
theorem set7_size (w:World)(B:Nat)(v0 v1 v2 v3 v4 v5 v6:Value):(set7 w B v0 v1 v2 v3 v4 v5 v6).heap.size=w.heap.size:=by simp[set7]
theorem val_door {w w3:World}{b:Nat}{s:ByteArray}{p3 l3:By}{bad deep:Int}{o en:Bool}{v0 v1 v2 v3 v4 v5 v6:Value}(hx:w3.heap[w.heap.size]?=some (.cells #[.pointer (some ⟨b,0,none⟩)] 55 (0,0)))(hz:w3.heap[w.heap.size+1]?=some (.cells #[.int .i64 0,.int .i64 0,.int .i64 0,.float .f64 0,.string ⟨#[]⟩,.slice none 0 0,.slice none 0 0] 30 (0,0)))(hR:RdAt w3 b s p3 l3 bad (deep+1) o en)
  (hg:w.grownBy w3 (some b))(hbB:b<w.heap.size)(hd0:0≤deep)(hd1:deep≤50){tmps:Array Value}(ht:tmps.getD 2 undef=.pointer (some ⟨w.heap.size+1,0,none⟩)){R:Ending→World→Prop}
  (hK:∀w',RdAt w' b s p3 l3 bad deep o en→w.grownBy w' (some b)→(∀k,k≠b→k≠w.heap.size+1→w'.heap[k]?=w3.heap[k]?)→w'.heap.size=w3.heap.size→R (.returned (.agg #[v0,v1,v2,v3,v4,v5,v6])) w') :
  bodyPostD Tryz.prog Tryz.f28 R Exit.ret { tmps:=tmps,defers:=[{ target:=.fn (.func 44) #[.pointer (some ⟨w.heap.size,0,none⟩)],args:=#[] }] } (set7 w3 (w.heap.size+1) v0 v1 v2 v3 v4 v5 v6):=by
 have hx4:(set7 w3 (w.heap.size+1) v0 v1 v2 v3 v4 v5 v6).heap[w.heap.size]?=some (.cells #[.pointer (some ⟨b,0,none⟩)] 55 (0,0)):=(set7_other _ _ _ _ _ _ _ _ _ _ (by omega)).trans hx;have hR4:RdAt (set7 w3 (w.heap.size+1) v0 v1 v2 v3 v4 v5 v6) b s p3 l3 bad (deep+1) o en:=hR.of_heap (set7_other _ _ _ _ _ _ _ _ _ _ (by omega));have hz4:=set7_at hz v0 v1 v2 v3 v4 v5 v6;have hg4:=set7_gr hg (B:=w.heap.size+1) (by omega) v0 v1 v2 v3 v4 v5 v6;have hs4:=set7_size w3 (w.heap.size+1) v0 v1 v2 v3 v4 v5 v6;have ho4:∀k,k≠w.heap.size+1→(set7 w3 (w.heap.size+1) v0 v1 v2 v3 v4 v5 v6).heap[k]?=w3.heap[k]?:=fun k hk=>set7_other _ _ _ _ _ _ _ _ _ _ hk;generalize set7 w3 (w.heap.size+1) v0 v1 v2 v3 v4 v5 v6=w4 at *;refine leaves_cons (f:=44) (args:=#[.pointer (some ⟨w.heap.size,0,none⟩)]) (by simp) (by simp[go_sem]) ?_;refine(val1_d w4 b w.heap.size (deep+1) .returning (by simp[World.cell?,hx4]) hR4.cells.2.2.2.1 (hR4.cells.2.2.2.2.2.2 3) (by omega) (by omega)).mono ?_;rintro e u' w''⟨rfl,rfl,rfl⟩;have hR5:=hR4.set3 (deep+1-1);rw[show deep+1-1=deep by omega]at hR5⊢;have hz5:(w4.setCell ⟨b,3,none⟩ (.int .i64 deep)).heap[w.heap.size+1]?=some (.cells #[v0,v1,v2,v3,v4,v5,v6] 30 (0,0)):=(Below.heap_setCell _ _ _ _ (by simp;omega)).trans hz4;have hg5:=gr_set hg4 3 (.int .i64 deep);have ho5:∀k,k≠b→k≠w.heap.size+1→(w4.setCell ⟨b,3,none⟩ (.int .i64 deep)).heap[k]?=w3.heap[k]?:=fun k h1 h2=>(Below.heap_setCell _ _ _ _ (by simpa using h1)).trans (ho4 k h2);have hs5:(w4.setCell ⟨b,3,none⟩ (.int .i64 deep)).heap.size=w3.heap.size:=by simpa using hs4
 generalize w4.setCell ⟨b,3,none⟩ (.int .i64 deep)=w5 at *;obtain⟨y0,y1,y2,y3,y4,y5,y6,yf⟩:=cells7 hz5;refine Exists.intro (.agg #[v0,v1,v2,v3,v4,v5,v6]) ⟨by simp only[Array.getD_eq_getD_getElem?]at ht;simp[results,Tryz.results28,go_sem,ht,y0,y1,y2,y3,y4,y5,y6],?_⟩;exact hK _ hR5 hg5 ho5 hs5
theorem val_lit (w:World)(b:Nat)(s:ByteArray)(p l:By)(deep:Int)(hd0:0≤deep)(hd1:deep≤49)(odd ends:Bool)(hR:RdAt w b s p l 0 deep odd ends)(hs:s.size≤1000000000)
  (c:UInt8)(la:By)(oa:Bool)(hP:passM false l odd=(c::la,oa))(h40:((c.toNat:Int)==40)=true) :
  Calls Tryz.prog 28 #[.pointer (some ⟨b,0,none⟩)] w fun e w'=>VPost w w' b s deep ends e ((litF (c::la) 0 []).map fun r=>(.str r.1,r.2,oa)):=by
 have hbB:=hR.lt;have HR:=xhd hR;clear hR
 have hal:=alloc2 w w.heap.size rfl (.cells #[.pointer (some ⟨b,0,none⟩)] 55 (0,0)) (.cells #[.int .i64 0,.int .i64 0,.int .i64 0,.float .f64 0,.string ⟨#[]⟩,.slice none 0 0,.slice none 0 0] 30 (0,0));have hmf:∀(fn:Fn) (first cap:Array Value) (w:World),(Instr.makeFunc fn first cap).run Tryz.prog w=.ok (.func fn first cap) w:=fun _ _ _ _=>rfl
 go_enter_defers Tryz.func28,Tryz.ntmps28
 go_wp2_with fail
 refine(pass_any _ b s p l 0 deep odd ends (by exact(HR.out.alloc _).alloc _) (by omega)).mono ?_;rintro e w1⟨rfl,⟨p1,hR1⟩,hg1⟩;have hb1:=keep hg1 hal.1 (by simp;omega);have hb2:=keep hg1 hal.2 (by simp;omega);have hlt1:w.heap.size+1<w1.heap.size:=(xgl hb2);have HG1:=xhd (gr_same (gr_alloc (gr_alloc (xgr w (some b)) _) _) hg1);obtain⟨HB1,HB2⟩:=xh2 hb1 hb2;have d0:w1.cell? ⟨w.heap.size,0,none⟩=some (.pointer (some ⟨b,0,none⟩)):=by simp[World.cell?,hb1]
 rw[hP]at hR1;simp only at hR1;obtain⟨c0,c1,c2,c3,c4,c5,cf⟩:=hR1.cells;have hsz1:=hR1.size;have HR1:=xhd hR1;have hnb1:¬w.heap.size=b:=by omega
 have hnb2:¬w.heap.size+1=b:=by omega
 have hp1:p1.length≤s.size:=by omega
 have Hsz1:=xhd hsz1;clear hg1 hal hb1 hb2 hR1 hsz1;go_wp2_with fail
 have hlt:p1.length<s.size:=by have:=Hsz1.out;simp at this;omega
 obtain⟨hk,hget⟩:=HR1.out.head;have hle:¬s.size≤p1.length:=by omega
 have HR2:=xhd (HR1.out.set3 (deep+1));have HG2:=xhd (gr_set HG1.out 3 (.int .i64 (deep+1)));have hlt2:w.heap.size+1<(w1.setCell ⟨b,3,none⟩ (.int .i64 (deep+1))).heap.size:=by simp;omega
 have HB3:=xhd ((Below.heap_setCell w1 ⟨b,3,none⟩ (.int .i64 (deep+1)) w.heap.size (by simp;omega)).trans HB1.out);have HB4:=xhd ((Below.heap_setCell w1 ⟨b,3,none⟩ (.int .i64 (deep+1)) (w.heap.size+1) (by simp;omega)).trans HB2.out);obtain⟨w2,hw2⟩:∃w2,w2=w1.setCell ⟨b,3,none⟩ (.int .i64 (deep+1)):=⟨_,rfl⟩;rw[←hw2]at HR2 HG2 HB3 HB4 hlt2⊢;clear hw2 HR1 HG1 HB1 HB2 c0 c1 c2 c3 c4 c5 cf d0 hlt1;obtain⟨c0,c1,c2,c3,c4,c5,cf⟩:=HR2.out.cells;have d0:w2.cell? ⟨w.heap.size,0,none⟩=some (.pointer (some ⟨b,0,none⟩)):=by simp[World.cell?,HB3.out]
 go_quiet ((go_at_call 52;with_reducible first|exact qad _|exact qbd _));go_wp2_with fail
 go_quiet ((go_at_call 52;with_reducible first|exact qad _|exact qbd _));go_wp2_with fail
 refine(lit_any _ b s p1 (c::la) 0 (deep+1) oa ends (by exact HR2.out.drewN _) (by omega)).mono ?_;intro e w3 hP3
 cases hlit:litF (c::la) 0 [] with
 | none =>
  rw[hlit]at hP3;obtain⟨rfl,⟨p3,hR3⟩,hg3⟩:=hP3;have hz3:=keep hg3 HB4.out (by simp;omega);have hx3:=keep hg3 HB3.out (by simp;omega);have HG3:=xhd (gr_same HG2.out (show w2.grownBy w3 (some b) from⟨hg3.os,hg3.tape,hg3.output,hg3.size,hg3.block⟩));have hlt3:w.heap.size+1<w3.heap.size:=(xgl hz3);obtain⟨z0,z1,z2,z3,z4,z5,z6,zf⟩:=zb_cells hz3;obtain⟨HZ3,HX3,HR3⟩:=xh3 hz3 hx3 hR3;clear hR3
  clear hz3 hx3 hg3 c0 c1 c2 c3 c4 c5 cf d0 HG2 HR2 HB3 HB4;go_wp2_with fail
  refine val_door HX3.out HZ3.out HR3.out HG3.out hbB hd0 (by omega) rfl ?_;intro w' h1 h2 h3 h4;rw[hlit];exact⟨_,rfl,⟨_,_,_,_,_,_,_,_,_,_,_,rfl⟩,⟨p3,[],oa,failB 0 1,true,failB_ne _ _ (by decide),h1⟩,h2⟩
 | some q =>
  obtain⟨t,r⟩:=q;rw[hlit]at hP3;obtain⟨rfl,⟨p3,hR3⟩,hg3⟩:=hP3;have hz3:=keep hg3 HB4.out (by simp;omega);have hx3:=keep hg3 HB3.out (by simp;omega);have HG3:=xhd (gr_same HG2.out (show w2.grownBy w3 (some b) from⟨hg3.os,hg3.tape,hg3.output,hg3.size,hg3.block⟩));have hlt3:w.heap.size+1<w3.heap.size:=(xgl hz3);obtain⟨z0,z1,z2,z3,z4,z5,z6,zf⟩:=zb_cells hz3;obtain⟨HZ3,HX3,HR3⟩:=xh3 hz3 hx3 hR3;clear hR3
  clear hz3 hx3 hg3 c0 c1 c2 c3 c4 c5 cf d0 HG2 HR2 HB3 HB4;go_wp2_with fail
  refine val_door HX3.out HZ3.out HR3.out HG3.out hbB hd0 (by omega) rfl ?_;intro w' h1 h2 h3 h4;rw[hlit];exact⟨nilS,nilS,fun _=>False,rfl,IsV.plain (by trivial),fun k hk=>hk.elim,⟨p3,h1⟩,h2⟩
end Go.Proofs.YtfkecmlmnhbmoaaGreatDoor
namespace Go.Proofs.YtfkecmlmnhbmoaaGreatDoor
theorem litF_app:∀(n:Nat) (l:By) (j:Int) (out t r z:By),l.length≤n→litF l j out=some (t,r)→litF (l++z) j out=some (t,r++z):=by
 intro n
 induction n with
 | zero =>
  intro l j out t r z hl h;obtain rfl:l=[]:=List.eq_nil_of_length_eq_zero (by omega);rw[litF_nil]at h;exact absurd h (by simp)
 | succ n ih =>
  intro l j out t r z hl h
  cases l with
  | nil=>rw[litF_nil]at h;exact absurd h (by simp)
  | cons c l =>
   simp only[List.length_cons]at hl;rw[litF_cons]at h;rw[List.cons_append,litF_cons]
   by_cases h40:((c.toNat:Int)==40)=true
   ·rw[if_pos h40]at h⊢
    split at h<;>rename_i hh
    ·rw[if_pos hh];exact ih _ _ _ _ _ _ (by omega) h
    ·rw[if_neg hh];exact ih _ _ _ _ _ _ (by omega) h
   ·rw[if_neg h40]at h⊢
    by_cases h41:((c.toNat:Int)==41)=true
    ·rw[if_pos h41]at h⊢
     split at h<;>rename_i hh
     ·rw[if_pos hh]
      injection h with h;injection h with h1 h2;subst h1;subst h2;rfl
     ·rw[if_neg hh];exact ih _ _ _ _ _ _ (by omega) h
    ·rw[if_neg h41]at h⊢
     by_cases h13:((c.toNat:Int)==13)=true
     ·rw[if_pos h13]at h⊢
      obtain⟨q,h1,_,h3⟩:=skip10_split2 l;have hq:=skip10_len l;generalize skip10 l=m at *
      cases m with
      | nil=>rw[litF_nil]at h;exact absurd h (by simp)
      | cons e m =>
       rw[h1,List.append_assoc,h3 _ (by simp)];exact ih _ _ _ _ _ _ (by omega) h
     ·rw[if_neg h13]at h⊢
      by_cases h92:((c.toNat:Int)==92)=true
      ·rw[if_pos h92]at h⊢
       cases l with
       | nil=>simp[escF,litF_nil]at h
       | cons d l =>
        obtain⟨q,h1,_,h3⟩:=esc_split d l;have hq:=escF_len (d::l);generalize escF (d::l)=E at *;obtain⟨b,is,m⟩:=E;simp only at *
        cases m with
        | nil=>rw[litF_nil,litF_nil]at h;simp at h
        | cons e m =>
         rw[h1,List.cons_append,List.append_assoc,h3 _ (by simp)];simp only
         split at h<;>rename_i hh
         ·rw[if_pos hh];exact ih _ _ _ _ _ _ (by omega) h
         ·rw[if_neg hh];exact ih _ _ _ _ _ _ (by omega) h
      ·rw[if_neg h92]at h⊢
       exact ih _ _ _ _ _ _ (by omega) h
theorem lit_read {s t:By}(h:litF (40::(s++[41])) 0 []=some (t,[]))(r:By):litF (40::(s++41::r)) 0 []=some (t,r):=by
 have:=litF_app _ _ _ _ _ _ r (Nat.le_refl _) h;simpa using this
theorem hexVal_char {n:Int}(h:0≤hexVal n):(48≤n∧n≤57)∨(97≤n∧n≤102)∨(65≤n∧n≤70):=by
 unfold hexVal at h
 split at h
 ·exact .inl (by assumption)
 ·split at h
  ·exact .inr (.inl (by assumption))
  ·split at h
   ·exact .inr (.inr (by assumption))
   ·omega
theorem hexF_close:∀(s:By) (od:Bool) (half:Int) (out:By) (o:Bool),(∀c∈s,0≤hexVal (c.toNat:Int))→∃t,∀r,hexF (s++62::r) od half out o=(0,t,r,o):=by
 intro s
 induction s with
 | nil=>intro od half out o _;exact⟨_,fun r=>by simp only[List.nil_append,hexF];rfl⟩
 | cons c s ih =>
  intro od half out o h;have hc:=h c (by simp);have hr:=hexVal_char hc;have e1:((c.toNat:Int)==62)=false:=by simp;omega
  have e2:isWhite (c.toNat:Int)=false:=by simp[isWhite];omega
  have hs:∀d∈s,0≤hexVal (d.toNat:Int):=fun d hd=>h d (by simp[hd])
  cases od with
  | true =>
   obtain⟨t,ht⟩:=ih false half (out++[ub (half*16+hexVal (c.toNat:Int))]) o hs;refine⟨t,fun r=>?_⟩;rw[List.cons_append];simp only[hexF,e1,e2,Bool.false_eq_true,if_false];rw[if_neg (by omega)];simpa using ht r
  | false =>
   obtain⟨t,ht⟩:=ih true (hexVal (c.toNat:Int)) out o hs;refine⟨t,fun r=>?_⟩;rw[List.cons_append];simp only[hexF,e1,e2,Bool.false_eq_true,if_false];rw[if_neg (by omega)];simpa using ht r
theorem hex_read {s:By}(h:∀c∈s,0≤hexVal (c.toNat:Int))(r:By):hexF (s++62::r) false 0 [] false=(0,hexT s,r,false):=by
 obtain⟨t,ht⟩:=hexF_close s false 0 [] false h;have:hexT s=t:=by unfold hexT;rw[ht []]
 rw[this];exact ht r
def needHex (n:Int):Bool:=n==40||n==41||n==60||n==62||n==91||n==93||n==123||n==125||n==47||n==37||n==35||decide (n<33)||decide (126<n)
def hexDig (n:Nat):UInt8:=if n<10 then UInt8.ofNat (48+n) else UInt8.ofNat (87+n)
def encN:By→By
 | []=>[]
 | c::l=>if needHex (c.toNat:Int) then 35::hexDig (c.toNat/16)::hexDig (c.toNat%16)::encN l else c::encN l
theorem hexDig_ok:∀n:Nat,n<16→isReg ((hexDig n).toNat:Int)=true∧isPlain ((hexDig n).toNat:Int)=true∧hexVal ((hexDig n).toNat:Int)=n:=by decide
theorem encN_chars:∀(l:By),∀c∈encN l,isReg (c.toNat:Int)=true∧isPlain (c.toNat:Int)=true:=by
 intro l
 induction l with
 | nil=>intro c hc;simp[encN]at hc
 | cons d l ih =>
  intro c hc;have hd:=d.toNat_lt;simp only[encN]at hc
  split at hc
  ·rename_i hn
   simp only[List.mem_cons]at hc;rcases hc with rfl|rfl|rfl|hc
   ·decide
   ·have:=hexDig_ok (d.toNat/16) (by omega);exact⟨this.1,this.2.1⟩
   ·have:=hexDig_ok (d.toNat%16) (by omega);exact⟨this.1,this.2.1⟩
   ·exact ih c hc
  ·rename_i hn
   rcases List.mem_cons.1 hc with rfl|hc
   ·simp[needHex]at hn
    simp[isReg,isPlain,isWhite,isDelim];omega
   ·exact ih c hc
theorem ub_self (c:UInt8):ub (c.toNat:Int)=c:=by unfold ub;simp
theorem nameB_enc:∀(l out:By),(∀c∈l,(c.toNat:Int)≠0)→nameB (encN l) out=some (out++l):=by
 intro l
 induction l with
 | nil=>intro out _;simp[encN,nameB]
 | cons d l ih =>
  intro out h;have hd:=d.toNat_lt;have h0:=h d (by simp);have hl:∀c∈l,(c.toNat:Int)≠0:=fun c hc=>h c (by simp[hc]);simp only[encN]
  split
  ·rename_i hn
   have a1:=(hexDig_ok (d.toNat/16) (by omega)).2.2;have a2:=(hexDig_ok (d.toNat%16) (by omega)).2.2;rw[nameB_3 (by decide),a1,a2];have e:16*((d.toNat/16:Nat):Int)+((d.toNat%16:Nat):Int)=(d.toNat:Int):=by omega
   rw[if_neg (by omega),e,if_neg (by simpa using h0),ub_self,ih _ hl];simp
  ·rename_i hn
   have:((d.toNat:Int) != 35)=true:=by
    simp[needHex]at hn;simp;omega
   rw[nameB_plain this,ih _ hl];simp
def EndW (r:By):Prop:=∀c∈r.head?,isReg (c.toNat:Int)=false∧(c.toNat:Int)≠123∧(c.toNat:Int)≠125∧(c.toNat:Int)≠41
theorem word_app {r:By}(hr:EndW r):∀(w:By),(∀c∈w,isReg (c.toNat:Int)=true∧isPlain (c.toNat:Int)=true)→wordT (w++r)=w∧wordR (w++r)=r∧wordO (w++r) false=false:=by
 intro w
 induction w with
 | nil =>
  intro _
  cases r with
  | nil=>simp[wordT,wordR,wordO]
  | cons c r =>
   obtain⟨h1,h2,h3,h4⟩:=hr c (by simp);simp only[List.nil_append,wordT,wordR,wordO,List.takeWhile_cons,List.dropWhile_cons,h1];simp;omega
 | cons c w ih =>
  intro h;obtain⟨h1,h2,h3⟩:=ih (fun d hd=>h d (by simp[hd]));obtain⟨h4,h5⟩:=h c (by simp);refine⟨?_,?_,?_⟩
  ·unfold wordT at h1⊢
   rw[List.cons_append,List.takeWhile_cons,if_pos h4,h1]
  ·unfold wordR at h2⊢
   rw[List.cons_append,List.dropWhile_cons,if_pos h4,h2]
  ·rw[List.cons_append]
   simp only[wordO,h4,if_true,h5];exact h3
theorem parse_snoc:∀(l:By) (acc v:Nat) (c:UInt8),Lib.parseUint10 acc l=.ok v→48≤c.toNat∧c.toNat≤57→v<10000000000→Lib.parseUint10 acc (l++[c])=.ok (v*10+(c.toNat-48)):=by
 intro l
 induction l with
 | nil =>
  intro acc v c h hc hv;simp only[Lib.parseUint10]at h;injection h with h;subst h;simp only[List.nil_append,Lib.parseUint10];rw[if_pos hc,if_neg (by omega),if_neg (by omega)]
 | cons d l ih =>
  intro acc v c h hc hv;simp only[List.cons_append,Lib.parseUint10]at h⊢
  split at h
  ·rename_i hd
   rw[if_pos hd]
   split at h
   ·cases h
   ·rename_i h1
    rw[if_neg h1]
    split at h
    ·cases h
    ·rename_i h2
     rw[if_neg h2];exact ih _ _ _ h hc hv
  ·cases h
theorem dec_dig (u:Nat):∀c∈Lib.decDigits u,48≤c.toNat∧c.toNat≤57:=by
 induction u using Nat.strongRecOn with
 | _ u ih =>
  intro c hc;rw[Lib.decDigits]at hc
  split at hc
  ·simp only[List.mem_singleton]at hc;subst hc
   rw[UInt8.toNat_ofNat'];omega
  ·rcases List.mem_append.1 hc with hc|hc
   ·exact ih (u/10) (by omega) c hc
   ·simp only[List.mem_singleton]at hc;subst hc
    rw[UInt8.toNat_ofNat'];omega
theorem dec_ne (u:Nat):Lib.decDigits u≠[]:=by
 rw[Lib.decDigits]
 split<;>simp
theorem dec_len:∀(k u:Nat),u<10^(k+1)→(Lib.decDigits u).length≤k+1:=by
 intro k
 induction k with
 | zero=>intro u h;rw[Lib.decDigits,dif_pos (by simpa using h)];simp
 | succ k ih =>
  intro u h;rw[Lib.decDigits]
  split
  ·simp
  ·have:=ih (u/10) (by rw[Nat.pow_succ]at h;omega)
   simp;omega
theorem dec_parse (u:Nat):u<10000000000→Lib.parseUint10 0 (Lib.decDigits u)=.ok u:=by
 induction u using Nat.strongRecOn with
 | _ u ih =>
  intro h;rw[Lib.decDigits]
  split
  ·rename_i h10
   have e:(UInt8.ofNat (48+u)).toNat=48+u:=by rw[UInt8.toNat_ofNat'];omega
   simp only[Lib.parseUint10,e];rw[if_pos (by omega),if_neg (by omega),if_neg (by omega)];congr 1;omega
  ·rename_i h10
   have e:(UInt8.ofNat (48+u%10)).toNat=48+u%10:=by rw[UInt8.toNat_ofNat'];omega
   rw[parse_snoc _ _ _ _ (ih (u/10) (by omega) (by omega)) (by omega) (by omega),e];congr 1;omega
theorem digs_reg {c:UInt8}(h:48≤c.toNat∧c.toNat≤57):isReg (c.toNat:Int)=true∧isPlain (c.toNat:Int)=true:=by
 simp[isReg,isPlain,isWhite,isDelim];omega
theorem dec_strip (u:Nat):numStrip (Lib.decDigits u)=Lib.decDigits u:=by
 have h:=dec_dig u
 cases hd:Lib.decDigits u with
 | nil=>rfl
 | cons c l =>
  have:=h c (by rw[hd];simp);rw[atoi_strip,if_neg (by omega)]
theorem itoa_chars (n:Int):∀c∈Lib.itoa n,isReg (c.toNat:Int)=true∧isPlain (c.toNat:Int)=true∧c≠82∧c≠37:=by
 intro c hc
 have key:∀u,c∈Lib.decDigits u→isReg (c.toNat:Int)=true∧isPlain (c.toNat:Int)=true∧c≠82∧c≠37:=fun u h=>by
  have h1:=dec_dig u c h;have h2:=digs_reg h1;refine⟨h2.1,h2.2,?_,?_⟩<;>(intro e;subst e;revert h1;decide)
 unfold Lib.itoa at hc
 split at hc
 ·rcases List.mem_cons.1 hc with rfl|hc
  ·decide
  ·exact key _ hc
 ·exact key _ hc
theorem itoa_ne (n:Int):Lib.itoa n≠[]:=by
 unfold Lib.itoa
 split
 ·simp
 ·exact dec_ne _
theorem itoa_num (pf:By→Nat)(n:Int)(h1:-2147483648≤n)(h2:n≤2147483647):numF pf (Lib.itoa n)=(2,n,0,0):=by
 have key:∀u:Nat,u≤2147483648→(Lib.decDigits u).length≤10∧1≤(Lib.decDigits u).length∧(∀c∈Lib.decDigits u,isDig (c.toNat:Int)=true)∧Lib.parseMag (Lib.decDigits u)=.ok u:=fun u hu=>by
  refine⟨dec_len 9 u (by omega),List.length_pos_iff.2 (dec_ne u),fun c hc=>?_,?_⟩
  ·have:=dec_dig u c hc;simp[isDig];omega
  ·unfold Lib.parseMag;rw[if_neg (dec_ne u)];exact dec_parse u (by omega)
 by_cases hn:n<0
 ·obtain⟨k1,k2,k3,k4⟩:=key n.natAbs (by omega)
  have e:Lib.itoa n=45::Lib.decDigits n.natAbs:=by unfold Lib.itoa;rw[if_pos hn]
  have es:numStrip (45::Lib.decDigits n.natAbs)=Lib.decDigits n.natAbs:=by rw[atoi_strip,if_pos (by decide)]
  have ea:Lib.atoiAll (45::Lib.decDigits n.natAbs)=.ok n:=by
   simp only[Lib.atoiAll];rw[if_pos (by decide),k4];simp only;rw[if_neg (by simp),if_neg (by omega)];congr 1;rw[if_pos (by decide)];omega
  unfold numF;rw[e,es,numScan_digs _ _ _ k3,ea];simp only;rw[if_neg (by simp only[beq_iff_eq];omega),if_neg (by omega),if_neg (by simp),if_neg (by omega)]
 ·obtain⟨k1,k2,k3,k4⟩:=key n.toNat (by omega)
  have e:Lib.itoa n=Lib.decDigits n.toNat:=by unfold Lib.itoa;rw[if_neg hn]
  have es:=dec_strip n.toNat
  have ea:Lib.atoiAll (Lib.decDigits n.toNat)=.ok n:=by
   have hd:=dec_dig n.toNat
   cases hl:Lib.decDigits n.toNat with
   | nil=>exact absurd hl (dec_ne _)
   | cons c l =>
    have hc:=hd c (by rw[hl];simp);rw[hl]at k4;simp only[Lib.atoiAll];rw[if_neg (by omega),k4];simp only;rw[if_neg (by omega),if_neg (by omega)];congr 1;rw[if_neg (by omega)];omega
  unfold numF;rw[e,es,numScan_digs _ _ _ k3,ea];simp only;rw[if_neg (by simp only[beq_iff_eq];omega),if_neg (by omega),if_neg (by simp),if_neg (by omega)]
theorem real_num (pf:By→Nat){t:By}(h:numOk t):numF pf t=(3,0,pf t,0):=by
 obtain⟨d,a,h1,h2,h3,h4⟩:=h;unfold numF;rw[h1];simp only;rw[if_neg (by simp only[beq_iff_eq];omega),if_neg (by omega),if_pos (by simp)]
theorem real_chars {t:By}(h:numOk t):t≠[]∧∀c∈t,isReg (c.toNat:Int)=true∧isPlain (c.toNat:Int)=true∧c≠82∧c≠116∧c≠102∧c≠110:=by
 obtain⟨d,a,h1,h2,h3,h4⟩:=h
 have key:∀c:UInt8,(isDig (c.toNat:Int)=true∨(c.toNat:Int)=46∨(c.toNat:Int)=43∨(c.toNat:Int)=45)→isReg (c.toNat:Int)=true∧isPlain (c.toNat:Int)=true∧c≠82∧c≠116∧c≠102∧c≠110:=fun c hc=>by
  simp only[isDig,Bool.and_eq_true,decide_eq_true_eq]at hc;refine⟨by simp[isReg,isWhite,isDelim];omega,by simp[isPlain];omega,?_,?_,?_,?_⟩<;>(intro e;subst e;revert hc;decide)
 cases t with
 | nil=>simp[numStrip,numScan]at h1
 | cons c t =>
  refine⟨by simp,fun e he=>key e ?_⟩;have hch:=numScan_chars _ _ _ _ _ h1;rw[atoi_strip]at hch
  split at hch
  ·rename_i hs
   rcases List.mem_cons.1 he with rfl|he
   ·omega
   ·have:=hch e he;rcases this with h|h
    ·exact .inl h
    ·exact .inr (.inl h)
  ·have:=hch e he;rcases this with h|h
   ·exact .inl h
   ·exact .inr (.inl h)
end Go.Proofs.YtfkecmlmnhbmoaaGreatDoor
