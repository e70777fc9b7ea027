/- Parts F16 G14 G17 G16 G18 G19 G20 G21 G22 G23 G24 G25 J7. -/
import Derived.Sort.KeysCollected
import Derived.Test.YtfkecmlmnhbmoaaGreatDoorW25
set_option linter.unusedVariables false
set_option linter.unusedSimpArgs false
set_option maxRecDepth 100000
set_option maxHeartbeats 40000000
namespace Go.Proofs.YtfkecmlmnhbmoaaGreatDoor
open Go Go.RowKit
theorem l2p_any (w:World)(p:Int)(h1:-10000≤p)(h2:p≤10000):Calls Tryz.prog 161 #[.int .i64 p] w fun e w'=>e=.returned (.int .i64 (p*108853/32768))∧w'=w:=by
 go_enter Tryz.func161,Tryz.ntmps161;go_wp2_with fail
 go_ret;exact⟨rfl,rfl⟩
theorem umn_any (w:World):Calls Tryz.prog 169 #[.int .u64 9007199254740992] w fun e w'=>e=.returned (.int .u64 36028797018963966)∧w'=w:=by
 go_enter Tryz.func169,Tryz.ntmps169;go_wp2_with fail
 go_ret;exact⟨rfl,rfl⟩
theorem b2i_t (w:World):Calls Tryz.prog 168 #[.bool true] w fun e w'=>e=.returned (.int .i64 1)∧w'=w:=by
 go_enter Tryz.func168,Tryz.ntmps168;go_wp2_with fail
 go_ret;exact⟨rfl,rfl⟩
theorem b2i_f (w:World):Calls Tryz.prog 168 #[.bool false] w fun e w'=>e=.returned (.int .i64 0)∧w'=w:=by
 go_enter Tryz.func168,Tryz.ntmps168;go_wp2_with fail
 go_ret;exact⟨rfl,rfl⟩
theorem wr4_range (n:Int)(h0:0≤n)(h1:n≤36028797018963969):0≤IntKind.u64.wrap n/4∧IntKind.u64.wrap n/4≤9007199254740992:=by rw[IntKind.wrap_u64];omega
theorem rnd_ex (u:Int)(h0:0≤u)(h1:u≤36028797018963967):∃v:Int,(0≤v∧v≤9007199254740992)∧∀w:World,Calls Tryz.prog 166 #[.int .u64 u] w fun e w'=>e=.returned (.int .u64 v)∧w'=w:=by
 apply Exists.intro;refine⟨?_,fun w=>?_⟩
 rotate_left
 go_enter Tryz.func166,Tryz.ntmps166;go_wp2_with fail
 go_ret;exact⟨rfl,rfl⟩;have hx:0≤bits .and .u64 (u/4) 1∧bits .and .u64 (u/4) 1≤1:=u64_and_le (u/4) 1 (by decide);refine wr4_range _ ?_ ?_<;>omega
theorem pf64_ex (W0:World)(hF:FInit2 W0)(d:Nat)(hd:d<18446744073709551616)(p:Int)(hp1:-100≤p)(hp2:p≤20)(sg:Int)(hs:sg=0∨sg=9223372036854775808) :
  ∃x:Nat,nnF x∧∀w:World,Env W0 w→Calls Tryz.prog 154 #[.int .u64 d,.int .i64 p,.int .u64 sg] w fun e w'=>e=.returned (.tuple #[.float .f64 x,.nilIface])∧w.grownBy w' none:=by
 have hs0:0≤sg:=by omega
 have hs1:sg≤18446744073709551615:=by omega
 have Hs:=xhd hs;clear hs;obtain⟨i,hi⟩:∃i:Nat,p+348=i:=⟨(p+348).toNat,by omega⟩;obtain⟨hi9,lo9,hh,hl,t0,t1⟩:=hF.p10 i (by omega);obtain⟨bl,hbl⟩:∃bl,bl=Lib.bitLen d:=⟨_,rfl⟩;have hb64:bl≤64:=by rw[hbl];exact Lib.bitLen_le d 64 (Nat.le_refl _) (by omega)
 obtain⟨X,hX⟩:∃X:Nat,X<18446744073709551616∧IntKind.u64.wrap ((d:Int)*2^(64-bl))=X:=by
  refine⟨(IntKind.u64.wrap ((d:Int)*2^(64-bl))).toNat,?_,?_⟩
  all_goals rw[IntKind.wrap_u64];omega
 obtain⟨hX1,hX2⟩:=hX;obtain⟨u,⟨hu0,hu1⟩,hus⟩:=us_ex X hi9 lo9 hX1 hh hl;have hlp1:-10000≤p*108853/32768:=by omega
 have hlp2:p*108853/32768≤10000:=by omega
 obtain⟨lp,hlp⟩:∃lp,lp=p*108853/32768:=⟨_,rfl⟩;have hlp3:-400≤lp:=by omega
 have hlp4:lp≤100:=by omega
 obtain⟨e0,he0⟩:∃e0,e0=min (1074:Int) (53-(bl:Int)-lp):=⟨_,rfl⟩;have he1:e0=53-(bl:Int)-lp:=by omega
 have he2:-600≤e0:=by omega
 have he3:e0≤600:=by omega
 have he4:min (1074:Int) (53-(bl:Int)-lp)=e0:=he0.symm;clear he0;obtain⟨He1,Hbl,Hlp⟩:=xh3 he1 hbl hlp;clear he1 hbl hlp
 have hx8:(64:Int)-(bl:Int)=((64-bl:Nat):Int):=by omega
 obtain⟨sh,hsh⟩:∃sh,sh=64-bl:=⟨_,rfl⟩;rw[←hsh]at hX2 hx8;have hsh64:sh≤64:=by omega
 have Hsh:=xhd hsh;clear hsh
 have h21:21<W0.heap.size:=World.block_lt_of_cell? _ _ t0;obtain⟨H21,HF,HT0,HT1,Hus⟩:=xh5 h21 hF t0 t1 hus;clear h21 hF t0 t1 hus
 rcases xbt (decide (36028797018963966≤u)) with hge|hge
 ·have hu9:=u64_and_le u 1 (by decide)
  have hor:0≤bits BinOp.or IntKind.u64 (u/2) (bits BinOp.and IntKind.u64 u 1)∧bits BinOp.or IntKind.u64 (u/2) (bits BinOp.and IntKind.u64 u 1)≤36028797018963967:=or_lt55 (by omega) (by simp only[decide_eq_true_eq,decide_eq_false_iff_not]at hge;omega) hu9.1 (Int.lt_of_le_of_lt hu9.2 (by decide));obtain⟨v,⟨hv0,hv1⟩,Hrn⟩:=rnd_ex (bits BinOp.or IntKind.u64 (u/2) (bits BinOp.and IntKind.u64 u 1)) hor.1 hor.2;have hsn:=or_sign Hs.out hv0 hv1;obtain⟨x,Hnn,Hpk⟩:=pack_ex (bits BinOp.or IntKind.u64 sg v) (-(e0-1)) hsn.1 hsn.2.1 hsn.2.2 (by omega) (by have:=He1.out;omega);clear hu9 hor hsn;obtain⟨HRN,HPK⟩:=xh2 Hrn Hpk;clear Hrn Hpk;replace hv1:v≤18446744073709551615:=by omega
  refine⟨x,Hnn,fun w hE=>?_⟩;clear Hnn;have hwz:=hE.1;go_enter Tryz.func154,Tryz.ntmps154;go_wp2_with fail
  refine(Tryz.bits_Len64 d _ (by omega) (by omega)).mono ?_;rintro e w1⟨rfl,hw⟩;subst w1;rw[Int.toNat_natCast,←Hbl.out];go_wp2_with fail
  refine(l2p_any _ p (by omega) (by omega)).mono ?_;rintro e w1⟨rfl,hw⟩;subst w1;rw[←Hlp.out];go_wp2_with fail
  have hnew:=heap_alloc_new w (.cells #[.int .u64 0,.int .u64 0,.int .i64 0] 240 (0,0));refine(pre_any _ w.heap.size _ p lp i hi9 lo9 240 _ _ _ hi (by omega) (by have:=H21.out;omega) (by rw[World.cell?_alloc_past _ _ _ (by have:=H21.out;simp;omega)];exact hE.cell HT0.out) (by rw[World.cell?_alloc_past _ _ _ (by have:=H21.out;simp;omega)];exact hE.cell HT1.out) (by exact hnew) (by omega) (by omega) (by omega) (by omega)).mono ?_;rintro e w1⟨rfl,hb1,hg1⟩;rw[show -(e0-(sh:Int)+lp+3)=8 by have:=He1.out;have:=Hsh.out;omega]at hb1;have d0:w1.cell? ⟨w.heap.size,0,none⟩=some (.int .u64 hi9):=by simp[World.cell?,hb1]
  have d1:w1.cell? ⟨w.heap.size,1,none⟩=some (.int .u64 lo9):=by simp[World.cell?,hb1]
  have d2:w1.cell? ⟨w.heap.size,2,none⟩=some (.int .i64 8):=by simp[World.cell?,hb1]
  have HG1:=xhd (show w.grownBy w1 none from gr_noneThen (gr_alloc (xgr w none) _) hg1 (fun j hj=>by injection hj with hj;omega));clear hg1 hb1 hnew;go_wp2_with fail
  refine(Hus.out w1 w.heap.size d0 d1 d2).mono ?_;rintro e w2⟨rfl,nn,rfl⟩;go_wp2_with fail
  refine(umn_any _).mono ?_;rintro e w2⟨rfl,hw⟩;subst w2;go_wp2_with fail
  first
   | refine(b2i_t _).mono ?_
   | refine(b2i_f _).mono ?_
  rintro e w2⟨rfl,hw⟩;subst w2;go_wp2_with fail
  refine(HRN.out _).mono ?_;rintro e w2⟨rfl,hw⟩;subst w2;go_wp2_with fail
  refine(HPK.out _).mono ?_;rintro e w2⟨rfl,hw⟩;subst w2;go_wp2_with fail
  go_ret2;exact⟨rfl,gr_drewN HG1.out _⟩
 ·have hu9:=u64_and_le u 1 (by decide)
  have hor:0≤bits BinOp.or IntKind.u64 (u) (bits BinOp.and IntKind.u64 u 1)∧bits BinOp.or IntKind.u64 (u) (bits BinOp.and IntKind.u64 u 1)≤36028797018963967:=or_lt55 (by omega) (by simp only[decide_eq_true_eq,decide_eq_false_iff_not]at hge;omega) hu9.1 (Int.lt_of_le_of_lt hu9.2 (by decide));obtain⟨v,⟨hv0,hv1⟩,Hrn⟩:=rnd_ex (bits BinOp.or IntKind.u64 (u) (bits BinOp.and IntKind.u64 u 1)) hor.1 hor.2;have hsn:=or_sign Hs.out hv0 hv1;obtain⟨x,Hnn,Hpk⟩:=pack_ex (bits BinOp.or IntKind.u64 sg v) (-e0) hsn.1 hsn.2.1 hsn.2.2 (by omega) (by have:=He1.out;omega);clear hu9 hor hsn;obtain⟨HRN,HPK⟩:=xh2 Hrn Hpk;clear Hrn Hpk;replace hv1:v≤18446744073709551615:=by omega
  refine⟨x,Hnn,fun w hE=>?_⟩;clear Hnn;have hwz:=hE.1;go_enter Tryz.func154,Tryz.ntmps154;go_wp2_with fail
  refine(Tryz.bits_Len64 d _ (by omega) (by omega)).mono ?_;rintro e w1⟨rfl,hw⟩;subst w1;rw[Int.toNat_natCast,←Hbl.out];go_wp2_with fail
  refine(l2p_any _ p (by omega) (by omega)).mono ?_;rintro e w1⟨rfl,hw⟩;subst w1;rw[←Hlp.out];go_wp2_with fail
  have hnew:=heap_alloc_new w (.cells #[.int .u64 0,.int .u64 0,.int .i64 0] 240 (0,0));refine(pre_any _ w.heap.size _ p lp i hi9 lo9 240 _ _ _ hi (by omega) (by have:=H21.out;omega) (by rw[World.cell?_alloc_past _ _ _ (by have:=H21.out;simp;omega)];exact hE.cell HT0.out) (by rw[World.cell?_alloc_past _ _ _ (by have:=H21.out;simp;omega)];exact hE.cell HT1.out) (by exact hnew) (by omega) (by omega) (by omega) (by omega)).mono ?_;rintro e w1⟨rfl,hb1,hg1⟩;rw[show -(e0-(sh:Int)+lp+3)=8 by have:=He1.out;have:=Hsh.out;omega]at hb1;have d0:w1.cell? ⟨w.heap.size,0,none⟩=some (.int .u64 hi9):=by simp[World.cell?,hb1]
  have d1:w1.cell? ⟨w.heap.size,1,none⟩=some (.int .u64 lo9):=by simp[World.cell?,hb1]
  have d2:w1.cell? ⟨w.heap.size,2,none⟩=some (.int .i64 8):=by simp[World.cell?,hb1]
  have HG1:=xhd (show w.grownBy w1 none from gr_noneThen (gr_alloc (xgr w none) _) hg1 (fun j hj=>by injection hj with hj;omega));clear hg1 hb1 hnew;go_wp2_with fail
  refine(Hus.out w1 w.heap.size d0 d1 d2).mono ?_;rintro e w2⟨rfl,nn,rfl⟩;go_wp2_with fail
  refine(umn_any _).mono ?_;rintro e w2⟨rfl,hw⟩;subst w2;go_wp2_with fail
  first
   | refine(b2i_t _).mono ?_
   | refine(b2i_f _).mono ?_
  rintro e w2⟨rfl,hw⟩;subst w2;go_wp2_with fail
  refine(HRN.out _).mono ?_;rintro e w2⟨rfl,hw⟩;subst w2;go_wp2_with fail
  refine(HPK.out _).mono ?_;rintro e w2⟨rfl,hw⟩;subst w2;go_wp2_with fail
  go_ret2;exact⟨rfl,gr_drewN HG1.out _⟩
theorem newref_any (i g:Int)(w:World):Calls Tryz.prog 38 #[.int .i64 i,.int .i64 g] w fun e w'=>e=.returned (.pointer (some ⟨w.heap.size,0,none⟩))∧w'=w.alloc (.cells #[.int .i64 i,.int .i64 g] 73 (0,0)):=by
 go_enter Tryz.func38,Tryz.ntmps38
 go_wp2
 go_ret;exact⟨rfl,rfl⟩
theorem bs_append (a b:By):bs a++bs b=bs (a++b):=by
 apply ByteArray.ext;simp[bs]
open Go.Maps
def RV:Value→Option (DataW Value×List MemPlace):=fun v=>some (.held v,[])
theorem keyed9:Keyed Tryz.prog 9:=Maps.string_keyed (by kernel_rfl)
theorem key9 (k:By)(hk:k.length≤maxLen):keyOf Tryz.prog 9 (.string (bs k))=some (.string k):=by
 have hu:Tryz.prog.underlying 9=some .string:=by kernel_rfl
 have h2:(⟨k.toArray⟩:ByteArray).size≤maxLen:=by have:=bs_size k;unfold bs at this;omega
 simp[keyOf,hu,mapKey,h2,bs]
def DictAt (w:World)(b:Nat)(keys:List By)(vals:List Value):Prop :=
 keys.length=vals.length∧keys.Nodup∧∃D,w.ownsMap Tryz.prog 9 RV b keys.length D∧(∀k:By,Maps.has D (.string k)=decide (k∈keys))∧∀(i:Nat) k v,keys[i]?=some k→vals[i]?=some v→∀z,D.atKey (.string k) z=.held v
theorem DictAt.new (w:World):DictAt (w.alloc (.map #[] 0)) w.heap.size [] [] :=
 ⟨rfl,List.nodup_nil,_,World.ownsMap_made w _ _ _,by intro k;simp[Maps.has],by intro i k v h;simp at h⟩
theorem DictAt.lt {w:World}{b:Nat}{keys:List By}{vals:List Value}(h:DictAt w b keys vals):b<w.heap.size:=by
 obtain⟨_,_,D,h,_⟩:=h;exact h.lt
theorem DictAt.keep {w w':World}{b:Nat}{keys:List By}{vals:List Value}(h:DictAt w b keys vals)(hb:w'.heap[b]?=w.heap[b]?):DictAt w' b keys vals:=by
 obtain⟨h1,h2,D,⟨es,clock,h3,h4⟩,h5⟩:=h;exact⟨h1,h2,D,⟨es,clock,hb.trans h3,h4⟩,h5⟩
theorem DictAt.put {w':World}{b:Nat}{keys:List By}{vals:List Value}{k:By}{v:Value}{D:DataW Value}(h1:keys.length=vals.length)(h2:keys.Nodup)(hT:Maps.IsMap D)(h3:∀k:By,Maps.has D (.string k)=decide (k∈keys))
  (h4:∀(i:Nat) k v,keys[i]?=some k→vals[i]?=some v→∀z,D.atKey (.string k) z=.held v)(hk:k∉keys)(hown:w'.ownsMap Tryz.prog 9 RV b (keys.length+1) (D.put (.string k) (.held v))):DictAt w' b (keys++[k]) (vals++[v]):=by
 refine⟨by simp[h1],?_,_,by simpa using hown,?_,?_⟩
 ·rw[List.nodup_append]
  exact⟨h2,by simp,fun a ha c hc e=>by simp at hc;subst hc;subst e;exact hk ha⟩
 ·intro q
  by_cases hq:q=k
  ·subst hq
   rw[Maps.has_put_same hT (show WideAt.IsKeyLit (.string q) from trivial)];simp
  ·rw[Maps.has_put_other (by simpa using hq),h3]
   simp[hq]
 ·intro i q u hq hu z
  by_cases hi:i<keys.length
  ·rw[List.getElem?_append_left hi]at hq
   rw[List.getElem?_append_left (by omega)]at hu;have hqk:q≠k:=by rintro rfl;exact hk (List.mem_of_getElem? hq)
   rw[Maps.atKey_put_other (by simpa using hqk)];exact h4 i q u hq hu z
  ·rw[List.getElem?_append_right (by omega)]at hq
   rw[List.getElem?_append_right (by omega)]at hu
   have hi0:i-keys.length=0:=by
    by_cases h0:i-keys.length=0
    ·exact h0
    ·obtain⟨j,hj⟩:∃j,i-keys.length=j+1:=⟨i-keys.length-1,by omega⟩
     rw[hj]at hq;simp at hq
   have hi1:i-vals.length=0:=by omega
   rw[hi0]at hq;rw[hi1]at hu;simp at hq hu;subst hq;subst hu
   exact Maps.atKey_put_same hT (show WideAt.IsKeyLit (.string k) from trivial) _ _
def KeysOk (keys:List By):Prop:=keys.length≤1000000∧∀k∈keys,k.length≤1000000
mutual
def ObjO (S:Nat→Prop)(w:World):PO→Value→Prop
 | .null,v=>v=.nilIface
 | .bool x,v=>v=.iface 66 (.bool x)
 | .int n,v=>v=.iface 67 (.int .i64 n)
 | .real x,v=>v=.iface 68 (.float .f64 x)
 | .lit s,v=>s.length≤319999∧v=.iface 69 (.string (bs s))
 | .hexl s,v=>s.length≤319999∧v=.iface 70 (.string (bs s))
 | .name s,v=>s.length≤319999∧v=.iface 71 (.string (bs s))
 | .ref n g,v=>v=.iface 73 (.agg #[.int .i64 n,.int .i64 g])
 | .arr kids,v=>kids.length≤1000000∧∃sl cells,v=.iface 77 sl∧SlAt S w sl 1 kids.length cells∧ObjOs S w kids cells
 | .dict keys kids,v=>KeysOk keys∧∃b vals,v=.iface 81 (.map (some b))∧S b∧DictAt w b keys vals∧ObjOs S w kids vals
def ObjOs (S:Nat→Prop)(w:World):List PO→List Value→Prop
 | [],c=>c=[]
 | p::ps,c=>∃v rest,c=v::rest∧ObjO S w p v∧ObjOs S w ps rest
end
mutual
theorem ObjO.keep {S S':Nat→Prop}{w w':World}(hS:∀k,S k→S' k∧w'.heap[k]?=w.heap[k]?):∀(p:PO) (v:Value),ObjO S w p v→ObjO S' w' p v
 | .arr kids,v,h=>by
  simp only[ObjO]at h⊢;obtain⟨h0,sl,cells,h1,h2,h3⟩:=h;exact⟨h0,sl,cells,h1,h2.keep hS,ObjOs.keep hS kids cells h3⟩
 | .dict keys kids,v,h=>by
  simp only[ObjO]at h⊢;obtain⟨h0,b,vals,h1,h2,h3,h4⟩:=h;exact⟨h0,b,vals,h1,(hS b h2).1,h3.keep (hS b h2).2,ObjOs.keep hS kids vals h4⟩
 | .null,v,h=>by simpa only [ObjO] using h
 | .bool _,v,h=>by simpa only [ObjO] using h
 | .int _,v,h=>by simpa only [ObjO] using h
 | .real _,v,h=>by simpa only [ObjO] using h
 | .lit _,v,h=>by simpa only [ObjO] using h
 | .hexl _,v,h=>by simpa only [ObjO] using h
 | .name _,v,h=>by simpa only [ObjO] using h
 | .ref _ _,v,h=>by simpa only [ObjO] using h
theorem ObjOs.keep {S S':Nat→Prop}{w w':World}(hS:∀k,S k→S' k∧w'.heap[k]?=w.heap[k]?):∀(ps:List PO) (c:List Value),ObjOs S w ps c→ObjOs S' w' ps c
 | [],c,h=>by simpa only [ObjOs] using h
 | p::ps,c,h=>by
  simp only[ObjOs]at h⊢;obtain⟨v,rest,h1,h2,h3⟩:=h;exact⟨v,rest,h1,ObjO.keep hS p v h2,ObjOs.keep hS ps rest h3⟩
end
theorem ObjOs.append {S:Nat→Prop}{w:World}{qs:List PO}{d:List Value}(hy:ObjOs S w qs d):∀(ps:List PO) (c:List Value),ObjOs S w ps c→ObjOs S w (ps++qs) (c++d)
 | [],c,h=>by simp only[ObjOs]at h;subst h;simpa using hy
 | p::ps,c,h=>by
  simp only[ObjOs,List.cons_append]at h⊢;obtain⟨v,rest,h1,h2,h3⟩:=h;exact⟨v,rest++d,by rw[h1];rfl,h2,ObjOs.append hy ps rest h3⟩
theorem ObjOs.one {S:Nat→Prop}{w:World}{p:PO}{v:Value}(h:ObjO S w p v):ObjOs S w [p] [v]:=by
 simp only[ObjOs];exact⟨v,[],rfl,h,rfl⟩
theorem ObjOs.get {S:Nat→Prop}{w:World} : ∀(ps:List PO) (c:List Value),ObjOs S w ps c→∀(i:Nat) p,ps[i]?=some p→∃v,c[i]?=some v∧ObjO S w p v
 | [],c,h,i,p,hi=>by simp at hi
 | q::ps,c,h,i,p,hi=>by
  simp only[ObjOs]at h;obtain⟨v,rest,h1,h2,h3⟩:=h;subst h1
  cases i with
  | zero=>simp at hi;subst hi;exact⟨v,by simp,h2⟩
  | succ i=>exact ObjOs.get ps rest h3 i p (by simpa using hi)
theorem zero50 (w:World):(zeroValue 50).run Tryz.prog w=.ok .nilIface w:=by kernel_rfl
theorem IsMap.of {w:World}{b n:Nat}{D:DataW Value}(h:w.ownsMap Tryz.prog 9 RV b n D):Maps.IsMap D:=by
 obtain⟨es,clock,_,_,_,rfl⟩:=h;exact⟨_,rfl⟩
theorem ObjO.nil_or {S:Nat→Prop}{w:World}{p:PO}{v:Value}(h:ObjO S w p v):(p=.null∧v=.nilIface)∨(p≠.null∧∃t u,v=.iface t u):=by
 cases p<;>simp only[ObjO]at h
 case null=>exact .inl ⟨rfl,h⟩
 case arr=>obtain⟨_,sl,c,h,_⟩:=h;exact .inr ⟨by simp,_,_,h⟩
 case dict=>obtain⟨_,b,c,h,_⟩:=h;exact .inr ⟨by simp,_,_,h⟩
 case lit=>exact .inr ⟨by simp,_,_,h.2⟩
 case hexl=>exact .inr ⟨by simp,_,_,h.2⟩
 case name=>exact .inr ⟨by simp,_,_,h.2⟩
 all_goals exact .inr ⟨by simp,_,_,h⟩
end Go.Proofs.YtfkecmlmnhbmoaaGreatDoor
namespace Go.Proofs.YtfkecmlmnhbmoaaGreatDoor
open Go Go.RowKit
theorem l10_any (w:World)(p:Int)(h1:-10000≤p)(h2:p≤10000):Calls Tryz.prog 120 #[.int .i64 p] w fun e w'=>e=.returned (.int .i64 (p*78913/262144))∧w'=w:=by
 go_enter Tryz.func120,Tryz.ntmps120;go_wp2_with fail
 go_ret;exact⟨rfl,rfl⟩
theorem umin_ex (x:Int)(h0:0≤x)(h1:x≤18446744073709551615):∃u:Int,(0≤u∧u≤18446744073709551615)∧∀w:World,Calls Tryz.prog 169 #[.int .u64 x] w fun e w'=>e=.returned (.int .u64 u)∧w'=w:=by
 apply Exists.intro;refine⟨?_,fun w=>?_⟩
 rotate_left
 go_enter Tryz.func169,Tryz.ntmps169;go_wp2_with fail
 go_ret;exact⟨rfl,rfl⟩;rw[IntKind.wrap_u64];omega
theorem round_ex (u:Int)(h0:0≤u)(h1:u≤18446744073709551615):∃v:Int,(0≤v∧v≤18446744073709551615)∧∀w:World,Calls Tryz.prog 166 #[.int .u64 u] w fun e w'=>e=.returned (.int .u64 v)∧w'=w:=by
 apply Exists.intro;refine⟨?_,fun w=>?_⟩
 rotate_left
 go_enter Tryz.func166,Tryz.ntmps166;go_wp2_with fail
 go_ret;exact⟨rfl,rfl⟩;rw[IntKind.wrap_u64];omega
theorem b2u_t (w:World):Calls Tryz.prog 207 #[.bool true] w fun e w'=>e=.returned (.int .u64 1)∧w'=w:=by
 go_enter Tryz.func207,Tryz.ntmps207;go_wp2_with fail
 go_ret;exact⟨rfl,rfl⟩
theorem b2u_f (w:World):Calls Tryz.prog 207 #[.bool false] w fun e w'=>e=.returned (.int .u64 0)∧w'=w:=by
 go_enter Tryz.func207,Tryz.ntmps207;go_wp2_with fail
 go_ret;exact⟨rfl,rfl⟩
theorem div_ex (u:Int)(h0:0≤u)(h1:u≤18446744073709551615):∃v:Int,(0≤v∧v≤18446744073709551615)∧∀w:World,Calls Tryz.prog 170 #[.int .u64 u,.int .u64 10] w fun e w'=>e=.returned (.int .u64 v)∧∃n,w'=w.drewN n:=by
 rcases xbt (u%10 != 0) with hb|hb
 all_goals
  apply Exists.intro;refine⟨?_,fun w=>?_⟩
  rotate_left
  go_enter Tryz.func170,Tryz.ntmps170;go_wp2_with fail
  go_quiet (first|(go_at_call 207;with_reducible first|exact Calls.quiet_of_same (b2u_t _)|exact quiet_plus (b2u_t _)|exact Calls.quiet_of (b2u_t _)|exact quiet_plusN (b2u_t _))|(go_at_call 207;with_reducible first|exact Calls.quiet_of_same (b2u_f _)|exact quiet_plus (b2u_f _)|exact Calls.quiet_of (b2u_f _)|exact quiet_plusN (b2u_f _)))
  go_wp2_with fail
  go_ret;exact⟨rfl,_,rfl⟩;exact or_range _ _
end Go.Proofs.YtfkecmlmnhbmoaaGreatDoor
