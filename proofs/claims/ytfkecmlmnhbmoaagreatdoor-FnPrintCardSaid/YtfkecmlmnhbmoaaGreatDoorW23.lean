/- Parts P13 G1 G2 G3 P14 G4 G6 P18 P19 Q1. -/
import Derived.Test.YtfkecmlmnhbmoaaGreatDoorW21
set_option linter.unusedVariables false
set_option linter.unusedSimpArgs false
set_option maxRecDepth 100000
set_option maxHeartbeats 40000000
namespace Go.Proofs.YtfkecmlmnhbmoaaGreatDoor
theorem bs_get (l:By)(i:Nat)(h:i<(bs l).size):(bs l)[i]'h=l[i]'(by rwa [bs_size]at h):=by
 simp[bs,ByteArray.getElem_eq_getElem_data]
theorem bs_at {l pre post:By}{c:UInt8}(h:l=pre++c::post):∃hk:pre.length<(bs l).size,(bs l)[pre.length]'hk=c:=by
 subst h;refine⟨by rw[bs_size];simp,?_⟩;rw[bs_get];simp
open Go Go.RowKit
def BldAt (w:World)(b B:Nat)(l:By):Prop:=b<B∧B≤w.heap.size∧∃p v,(p=.pointer none∨p=.pointer (some ⟨b,0,none⟩))∧w.heap[b]?=some (.cells #[p,v] 296 (0,0))∧OwnB B w v l
def KeptB (B b:Nat)(w w':World):Prop:=Below b w w'∧w.heap.size≤w'.heap.size∧(∀k,k<B→k≠b→w'.heap[k]?=w.heap[k]?)∧∀k,k<w.heap.size→k≠b→(∀p v,w.heap[b]?=some (.cells #[p,v] 296 (0,0))→v.ownBlock≠some k)→w'.heap[k]?=w.heap[k]?
theorem BldAt.keep {w w':World}{b B:Nat}{l:By}(h:BldAt w b B l){r:Option Nat}(hg:w.grownBy w' r)(hr:∀k,r=some k→k<B∧k≠b):BldAt w' b B l:=by
 obtain⟨h1,h2,p,v,h3,h4,h5⟩:=h;refine⟨h1,Nat.le_trans h2 hg.size,p,v,h3,(hg.block b (by omega) (fun e=>(hr b e.symm).2 rfl)).trans h4,h5.kept hg (fun k hk=>(hr k hk).1)⟩
theorem copy_any (w:World)(b B:Nat)(l:By)(h:BldAt w b B l):Calls Tryz.prog 230 #[.pointer (some ⟨b,0,none⟩)] w fun e w'=>e=.returned (.tuple #[])∧(∃p v,w.heap[b]?=some (.cells #[p,v] 296 (0,0))∧w'.heap[b]?=some (.cells #[.pointer (some ⟨b,0,none⟩),v] 296 (0,0))∧OwnB B w' v l)∧w.grownBy w' (some b)∧w'.heap.size=w.heap.size:=by
 obtain⟨h1,h2,p,v,h3,h4,h5⟩:=h;have hinfo:(Tryz.prog.info? 296).map (fun i=>i.size)=some 2:=by kernel_rfl
 obtain⟨j,hj,hjs⟩:=Option.map_eq_some_iff.1 hinfo;have u294:=Tryz.underlying294;have u314:=Tryz.underlying314;rcases h3 with rfl|rfl
 ·have c0:w.cell? ⟨b,0,none⟩=some (.pointer none):=by simp[World.cell?,h4]
  have f0:w.frozen? ⟨b,0,none⟩=false:=by simp[World.frozen?,h4]
  have hsh:w.shape? b=some (296,2):=by simp[World.shape?,h4]
  go_enter Tryz.func230,Tryz.ntmps230
  go_wp2
  rw[Lib.run_to_unsafe w ⟨b,0,none⟩ u294 u314 hj (by rw[hjs];decide) hsh (Nat.zero_lt_succ 1)];simp only[Result.andThen];rw[Oper.upon_value]
  go_wp2
  rw[run_callFunc_extern Tryz.func239 (by kernel_rfl) (by kernel_rfl) (by kernel_rfl) (e:=Extern.AbiNoEscape.same) (by kernel_rfl)];rw[Lib.run_noEscape];simp only[Result.andThen];rw[Oper.upon_value]
  go_wp2
  rw[Lib.run_from_unsafe w ⟨b,0,none⟩ u314 u294 hj hsh (by kernel_rfl)];simp only[Result.andThen];rw[Oper.upon_value]
  go_wp2
  go_end0;exact⟨rfl,⟨_,v,h4,by simp[World.setCell,Array.getElem?_modify,h4],h5.set h1 _⟩,gr_set (xgr _ _) _ _,by simp⟩
 ·have c0:w.cell? ⟨b,0,none⟩=some (.pointer (some ⟨b,0,none⟩)):=by simp[World.cell?,h4]
  go_enter Tryz.func230,Tryz.ntmps230
  go_wp2
  rw[Lib.run_neq_ptr_same w _ u294 hj]
  go_wp2
  go_end0;exact⟨rfl,⟨_,v,h4,h4,h5⟩,xgr _ _,rfl⟩
def BldPost (B b:Nat)(w w':World)(l:By):Prop:=BldAt w' b B l∧KeptB B b w w'
theorem bld_store {w w1 wA w2:World}{b B:Nat}{l l':By}{v v' p0:Value}(hbB:b<B)(hBw:B≤w.heap.size)(hb0:w.heap[b]?=some (.cells #[p0,v] 296 (0,0)))(hb1:w1.heap[b]?=some (.cells #[.pointer (some ⟨b,0,none⟩),v] 296 (0,0)))(hv1:OwnB B w1 v l)(hg1:w.grownBy w1 (some b))(hA3:w1.grownBy wA none)
  (hg2:wA.grownBy w2 v.ownBlock)(hv2:OwnB B w2 v' l'):BldPost B b w (w2.setCell ⟨b,1,none⟩ v') l':=by
 have hlt:b<w1.heap.size:=(xgl hb1);have hs1:=hg1.size;have hA2:=hA3.size;have hA4:∀k,k<w1.heap.size→wA.heap[k]?=w1.heap[k]?:=fun k hk=>hA3.block k hk (by simp);have hA1:=hA4 b hlt;have hne:some b≠v.ownBlock:=own_ne hv1 hbB
 have hb2:w2.heap[b]?=some (.cells #[.pointer (some ⟨b,0,none⟩),v] 296 (0,0)):=by
  rw[hg2.block b (by omega) hne,hA1];exact hb1
 have hs2:=hg2.size;refine⟨⟨hbB,by simp;omega,_,v',.inr rfl,by simp[World.setCell,Array.getElem?_modify,hb2],hv2.set hbB _⟩,⟨?_,?_,?_,?_,?_⟩,by simp;omega,?_,?_⟩
 ·exact((hg2.os.trans hA3.os).trans hg1.os)
 ·exact((hg2.tape.trans hA3.tape).trans hg1.tape)
 ·exact((hg2.output.trans hA3.output).trans hg1.output)
 ·simp;omega
 ·intro k hk
  rw[Below.heap_setCell _ _ _ _ (by simp;omega)];rw[hg2.block k (by omega) (fun e=>by have:=(hv1.lt k e.symm).1;omega),hA4 k (by omega)];exact hg1.block k (by omega) (by simp;omega)
 ·intro k hk hkb
  rw[Below.heap_setCell _ _ _ _ (by simpa using hkb)];rw[hg2.block k (by omega) (fun e=>by have:=(hv1.lt k e.symm).1;omega),hA4 k (by omega)];exact hg1.block k (by omega) (by simp;omega)
 ·intro k hk hkb hno
  rw[Below.heap_setCell _ _ _ _ (by simpa using hkb)];rw[hg2.block k (by omega) (fun e=>hno p0 v hb0 e.symm),hA4 k (by omega)];exact hg1.block k (by omega) (by simp;omega)
theorem wbyte_any (w:World)(b B:Nat)(l:By)(c:UInt8)(h:BldAt w b B l)(hl:l.length≤1000000000):Calls Tryz.prog 215 #[.pointer (some ⟨b,0,none⟩),.int .u8 c.toNat] w fun e w'=>e=.returned .nilIface∧BldPost B b w w' (l++[c]):=by
 have hbB:=h.1;have hBw:=h.2.1;go_enter Tryz.func215,Tryz.ntmps215;go_wp2_with fail
 refine(copy_any w b B l h).mono ?_;rintro e w1⟨rfl,⟨p0,v,hb0,hb1,hv1⟩,hg1,-⟩;have Hb0:=xhd hb0;clear hb0
 have hs1:=hg1.size;have c0:w1.cell? ⟨b,0,none⟩=some (.pointer (some ⟨b,0,none⟩)):=by simp[World.cell?,hb1]
 have c1:w1.cell? ⟨b,1,none⟩=some v:=by simp[World.cell?,hb1]
 have hlt:b<w1.heap.size:=(xgl hb1);obtain⟨Hb1,Hv1,Hg1⟩:=xh3 hb1 hv1 hg1;clear hb1 hv1 hg1
 go_wp2_with (at_builtin;go_must (refine wpList_push rfl (.tmp 11) (.tmp 13) rfl B _ l c _ rfl (OwnB.alloc Hv1.out _) _ rfl (by rw[World.cell?_alloc_at _ _ _ _ (by simp)];rfl) rfl (by omega) (by first|omega|(simp;omega)) ?_))
 intro v1 w2 hown1 hgr1
 have hb2:w2.heap[b]?=some (.cells #[.pointer (some ⟨b,0,none⟩),v] 296 (0,0)):=by
  rw[hgr1.block b (by simp;omega) (own_ne Hv1.out hbB),Below.heap_alloc _ _ _ hlt];exact Hb1.out
 have d0:w2.cell? ⟨b,0,none⟩=some (.pointer (some ⟨b,0,none⟩)):=by simp[World.cell?,hb2]
 have d1:w2.cell? ⟨b,1,none⟩=some v:=by simp[World.cell?,hb2]
 have f1:w2.frozen? ⟨b,1,none⟩=false:=by simp[World.frozen?,hb2]
 obtain⟨g,cap,rfl⟩:∃g cap,v1=.slice (some ⟨g,0,none⟩) (l.length+1) cap:=by
  rcases hown1.2 with⟨_,h0⟩|⟨g,cap,cur,hv,_⟩
  ·simp at h0
  ·exact⟨g,cap,by simpa using hv⟩
 have HP:=xhd (bld_store hbB hBw Hb0.out Hb1.out Hv1.out Hg1.out (gr_alloc (xgr _ _) _) hgr1 hown1);clear hb2 hgr1 hown1;go_wp2_with fail
 go_ret;exact⟨rfl,HP.out⟩
theorem wstr_any (w:World)(b B:Nat)(l:By)(t:By)(h:BldAt w b B l)(hl:l.length+t.length≤1000000000):Calls Tryz.prog 217 #[.pointer (some ⟨b,0,none⟩),.string (bs t)] w fun e w'=>(∃k,e=.returned (.tuple #[k,.nilIface]))∧BldPost B b w w' (l++t):=by
 have hbB:=h.1;have hBw:=h.2.1;obtain⟨i0,hi,hz0,hz1,hz2⟩:=info_parts Tryz.info5;go_enter Tryz.func217,Tryz.ntmps217;go_wp2_with fail
 refine(copy_any w b B l h).mono ?_;rintro e w1⟨rfl,⟨p0,v,hb0,hb1,hv1⟩,hg1,-⟩;have Hb0:=xhd hb0;clear hb0
 have hs1:=hg1.size;have c0:w1.cell? ⟨b,0,none⟩=some (.pointer (some ⟨b,0,none⟩)):=by simp[World.cell?,hb1]
 have c1:w1.cell? ⟨b,1,none⟩=some v:=by simp[World.cell?,hb1]
 have hlt:b<w1.heap.size:=(xgl hb1);obtain⟨Hb1,Hv1,Hg1⟩:=xh3 hb1 hv1 hg1;clear hb1 hv1 hg1
 have hts:(bs t).size=t.length:=bs_size t;have Hts:=xhd hts;clear hts
 go_wp2_with (at_builtin;refine Lib.wpList_append_own_string _ rfl _ _ 84 9 rfl B 5 i0 Tryz.underlying84 Tryz.underlying9 hi hz0 hz1 hz2 _ _ _ rfl Hv1.out (bs t) rfl (by rw[Hts.out];unfold maxLen;omega) (by rw[Hts.out];omega) (by omega) ?_)
 intro v1 w2 hown1 hgr1 _
 have hb2:w2.heap[b]?=some (.cells #[.pointer (some ⟨b,0,none⟩),v] 296 (0,0)):=by
  rw[hgr1.block b hlt (own_ne Hv1.out hbB)];exact Hb1.out
 have d0:w2.cell? ⟨b,0,none⟩=some (.pointer (some ⟨b,0,none⟩)):=by simp[World.cell?,hb2]
 have d1:w2.cell? ⟨b,1,none⟩=some v:=by simp[World.cell?,hb2]
 have f1:w2.frozen? ⟨b,1,none⟩=false:=by simp[World.frozen?,hb2]
 have hown2:OwnB B w2 v1 (l++t):=by
  unfold OwnB;have e1:Lib.strCells (bs t)=t.map fun c=>Value.int .u8 (c.toNat:Int):=by simp[Lib.strCells,bs]
  rw[e1,Hts.out]at hown1;simpa using hown1
 obtain⟨ao,n',cap,rfl⟩:∃ao n' cap,v1=.slice ao n' cap:=by
  rcases hown1.2 with⟨hv,_⟩|⟨g,cap,cur,hv,_⟩
  ·exact⟨_,_,_,hv⟩
  ·exact⟨_,_,_,hv⟩
 have HP:=xhd (bld_store hbB hBw Hb0.out Hb1.out Hv1.out Hg1.out (xgr _ _) hgr1 hown2);clear hb2 hgr1 hown1 hown2;go_wp2_with fail
 go_ret2;exact⟨⟨_,rfl⟩,HP.out⟩
theorem wtoS_any (w:World)(b B:Nat)(l:By)(h:BldAt w b B l):Calls Tryz.prog 219 #[.pointer (some ⟨b,0,none⟩)] w fun e w'=>e=.returned (.string (bs l))∧Below b w w':=by
 obtain⟨h1,h2,p,v,h3,h4,h5⟩:=h
 have hrow:w.ownsRow b 5 1 v l.length (l.map fun c=>Value.int .u8 (c.toNat:Int)):=by
  obtain⟨q1,q2⟩:=h5;refine⟨q1,?_⟩;rcases q2 with q2|⟨g,cap,cur,hv,hb,rest⟩
  ·exact .inl q2
  ·exact .inr ⟨g,cap,cur,hv,by omega,rest⟩
 have hne:v.ownBlock≠some b:=fun e=>own_ne h5 h1 e.symm
 have hI:Lib.IsBuilder 296 5 b b (Lib.byteCells l) w:=by
  have hl:(Lib.byteCells l).length=l.length:=by simp[Lib.byteCells]
  rcases h3 with rfl|rfl
  ·exact .inl ⟨Nat.le_refl _,v,h4,by rw[hl];exact hrow,hne⟩
  ·exact .inr ⟨Nat.le_refl _,v,h4,by rw[hl];exact hrow,hne⟩
 exact Tryz.Builder_String_any b b l w hI (by omega)
theorem BldAt.fresh (w:World):BldAt (w.alloc (.cells #[.pointer none,.slice none 0 0] 296 (0,0))) w.heap.size (w.heap.size+1) [] :=
 ⟨by omega,by simp,.pointer none,.slice none 0 0,.inl rfl,heap_alloc_new w _,OwnB.nil _ _⟩
end Go.Proofs.YtfkecmlmnhbmoaaGreatDoor
namespace Go.Proofs.YtfkecmlmnhbmoaaGreatDoor
def sepA:PO→Bool
 | .name _=>false | .arr _=>false | .dict _ _=>false|_=>true
def sepD:PO→Bool
 | .null=>true | .bool _=>true | .int _=>true | .real _=>true | .ref _ _=>true|_=>false
def spc (b:Bool):By:=if b then [32] else []
mutual
def prP (ff:Nat→By):PO→By
 | .null=>wNull
 | .bool b=>if b then wTrue else wFalse
 | .int n=>Lib.itoa n
 | .real x=>ff x
 | .lit s=>40::(s++[41])
 | .hexl s=>60::(s++[62])
 | .name s=>47::(if s=[] then [32] else encN s)
 | .ref n g=>Lib.itoa n++32::(Lib.itoa g++[32,82])
 | .arr kids=>91::(prAs ff true kids++[93])
 | .dict keys kids=>60::60::(prDs ff keys kids++[62,62])
def prAs (ff:Nat→By):Bool→List PO→By
 | _,[]=>[]
 | first,p::ps=>spc (!first&&sepA p)++(prP ff p++prAs ff false ps)
def prDs (ff:Nat→By):List By→List PO→By
 | k::ks,p::ps=>47::(encN k++(spc (sepD p)++(prP ff p++prDs ff ks ps)))
 | [],_=>[]
 | _::_,[]=>[]
end
mutual
def mapR (f:Nat→Nat):PO→PO
 | .real x=>.real (f x)
 | .arr kids=>.arr (mapRs f kids)
 | .dict keys kids=>.dict keys (mapRs f kids)
 | .null=>.null
 | .bool b=>.bool b
 | .int n=>.int n
 | .lit s=>.lit s
 | .hexl s=>.hexl s
 | .name s=>.name s
 | .ref n g=>.ref n g
def mapRs (f:Nat→Nat):List PO→List PO
 | []=>[]
 | p::ps=>mapR f p::mapRs f ps
end
mutual
def lvP:PO→Nat
 | .arr kids=>lvPs kids+1
 | .dict _ kids=>lvPs kids+1
 | _=>1
def lvPs:List PO→Nat
 | []=>0
 | p::ps=>max (lvP p) (lvPs ps)
end
mutual
def okR (ff:Nat→By)(R:Nat→Prop):PO→Prop
 | .int n=>-2147483648≤n∧n≤2147483647
 | .real x=>numOk (ff x)∧R x
 | .lit s=>∃t,litF (40::(s++[41])) 0 []=some (t,[])
 | .hexl s=>∀c∈s,0≤hexVal (c.toNat:Int)
 | .name s=>∀c∈s,(c.toNat:Int)≠0
 | .ref n g=>0<n∧n≤2147483647∧0≤g∧g≤65535
 | .arr kids=>okRs ff R kids
 | .dict keys kids=>keys.length=kids.length∧keys.Nodup∧(∀k∈keys,35∉k∧∀c∈k,(c.toNat:Int)≠0)∧okRs ff R kids
 | .null=>True
 | .bool _=>True
def okRs (ff:Nat→By)(R:Nat→Prop):List PO→Prop
 | []=>True
 | p::ps=>okR ff R p∧okRs ff R ps
end
def Beg1 (r:By):Prop:=∃la,passM false r false=(la,false)∧wordO la false=false∧headIs (wordT la) (· == 82)=false
def Beg (r:By):Prop:=∃la,passM false r false=(la,false)∧wordO la false=false∧headIs (wordT la) (· == 82)=false∧Beg1 (wordR la)
theorem Beg.one {r:By}(h:Beg r):Beg1 r:=by
 obtain⟨la,h1,h2,h3,_⟩:=h;exact⟨la,h1,h2,h3⟩
def Fol (r:By):Prop:=EndW r∧Beg r
theorem pass_sp (r:By)(o:Bool):passM false (32::r) o=passM false r o:=by
 simp only[passM];rfl
theorem Beg.sp {r:By}(h:Beg r):Beg (32::r):=by
 obtain⟨la,h1,h2⟩:=h;exact⟨la,by rw[pass_sp];exact h1,h2⟩
theorem Beg1.sp {r:By}(h:Beg1 r):Beg1 (32::r):=by
 obtain⟨la,h1,h2⟩:=h;exact⟨la,by rw[pass_sp];exact h1,h2⟩
theorem Beg.fol {r:By}(h:Beg r):Fol (32::r):=⟨fun c hc=>by simp at hc;subst hc;decide,h.sp⟩
theorem beg_nil:Beg []:=⟨[],rfl,rfl,rfl,[],rfl,rfl,rfl⟩
theorem pass_own {c:UInt8}{l:By}(o:Bool)(hw:isWhite (c.toNat:Int)=false)(h37:c≠37):passM false (c::l) o=(c::l,o):=by
 have:((c.toNat:Int)==37)=false:=by
  simp only[beq_eq_false_iff_ne];intro e;apply h37;apply UInt8.toNat_inj.1
  show c.toNat=37
  omega
 simp only[passM,hw,this,Bool.false_eq_true,if_false]
def dl (c:UInt8):Prop:=c=40∨c=47∨c=60∨c=62∨c=91∨c=93
theorem dl.facts {c:UInt8}(h:dl c):isWhite (c.toNat:Int)=false∧c≠37∧isReg (c.toNat:Int)=false∧(c.toNat:Int)≠123∧(c.toNat:Int)≠125∧(c.toNat:Int)≠41:=by
 rcases h with h|h|h|h|h|h<;>subst h<;>decide
theorem dl.fol {c:UInt8}(h:dl c)(l:By):Fol (c::l):=by
 obtain⟨h1,h2,h3,h4,h5,h6⟩:=h.facts;refine⟨fun d hd=>by simp at hd;subst hd;exact⟨h3,h4,h5,h6⟩,c::l,pass_own _ h1 h2,?_,?_,c::l,?_,?_,?_⟩
 ·simp[wordO,h3];omega
 ·simp[wordT,h3,headIs]
 ·simp only[wordR,List.dropWhile_cons,h3];exact pass_own _ h1 h2
 ·simp[wordO,h3];omega
 ·simp[wordT,h3,headIs]
theorem reg_pass {c:UInt8}(h:isReg (c.toNat:Int)=true):isWhite (c.toNat:Int)=false∧c≠37∧isDelim (c.toNat:Int)=false:=by
 simp only[isReg,Bool.and_eq_true,Bool.not_eq_true']at h;refine⟨h.1,fun e=>?_,h.2⟩;subst e;exact absurd h.2 (by decide)
theorem word_beg {w r:By}(hw:∀c∈w,isReg (c.toNat:Int)=true∧isPlain (c.toNat:Int)=true)(hne:w≠[])(h82:headIs w (· == 82)=false)(hE:EndW r)(hr:Beg1 r):Beg (w++r):=by
 obtain⟨h1,h2,h3⟩:=word_app hE w hw
 cases w with
 | nil=>exact absurd rfl hne
 | cons c w =>
  obtain⟨e1,e2,_⟩:=reg_pass (hw c (by simp)).1;refine⟨c::w++r,pass_own _ e1 e2,h3,?_,?_⟩
  ·rw[h1];exact h82
  ·rw[h2];exact hr
theorem rdV_word {pf:By→Nat}{n:Nat}{w r:By}(hw:∀c∈w,isReg (c.toNat:Int)=true∧isPlain (c.toNat:Int)=true)(hne:w≠[]):rdV pf (n+1) (w++r) false=rdNum pf (w++r) false:=by
 cases w with
 | nil=>exact absurd rfl hne
 | cons c w =>
  obtain⟨e1,e2,e3⟩:=reg_pass (hw c (by simp)).1;have hd:isDelim (c.toNat:Int)=false:=e3;have e3:=e3;simp only[isDelim,Bool.or_eq_false_iff]at e3
  have hi:is2 (c::(w++r)) 60=false:=by
   cases hwr:w++r with
   | nil=>rfl
   | cons d t=>simp only[is2];rw[e3.1.1.1.1.1.1.1.2];rfl
  rw[List.cons_append];simp only[rdV,pass_own false e1 e2,hi,hd,Bool.false_eq_true,if_false];rw[if_neg (by rw[e3.1.1.1.1.1.1.1.1.1];simp),if_neg (by rw[e3.1.1.1.1.1.1.1.2];simp),if_neg (by rw[e3.1.2];simp),if_neg (by rw[e3.1.1.1.1.1.2];simp)]
theorem ref_int {pf:By→Nat}(n:Int)(t:By){r:By}(hr:Beg r):refF pf n t r false=some (.int n,r,false):=by
 obtain⟨la,p1,p2,p3,lb,p4,p5,p6⟩:=hr;simp only[refF,p1,p2,p4,p5,p6]
 split
 ·simp
 ·rw[if_pos (Or.inl (by intro e;rw[e]at p6;simp[headIs]at p6))]
  simp
theorem head_dec (u:Nat):headIs (Lib.decDigits u) isDig=true∧headIs (Lib.decDigits u) (· == 82)=false:=by
 have h:=dec_dig u
 cases hl:Lib.decDigits u with
 | nil=>exact absurd hl (dec_ne _)
 | cons c l =>
  have:=h c (by rw[hl];simp);simp[headIs,isDig];omega
theorem itoa_head82 (n:Int):headIs (Lib.itoa n) (· == 82)=false:=by
 unfold Lib.itoa
 split
 ·rfl
 ·exact(head_dec _).2
theorem itoa_headDig {n:Int}(h:0≤n):headIs (Lib.itoa n) isDig=true:=by
 unfold Lib.itoa;rw[if_neg (by omega)];exact(head_dec _).1
theorem itoa_reg (n:Int):∀c∈Lib.itoa n,isReg (c.toNat:Int)=true∧isPlain (c.toNat:Int)=true:=fun c hc=>⟨(itoa_chars n c hc).1,(itoa_chars n c hc).2.1⟩
theorem endw_sp (l:By):EndW (32::l):=fun c hc=>by simp at hc;subst hc;decide
theorem ref_ref {pf:By→Nat}(n g:Int)(h1:0<n)(h3:0≤g)(h4:g≤65535){r:By}(hr:EndW r):refF pf n (Lib.itoa n) (32::(Lib.itoa g++32::82::r)) false=some (.ref n g,r,false):=by
 obtain⟨w1,w2,w3⟩:=word_app (endw_sp (82::r)) (Lib.itoa g) (itoa_reg g);obtain⟨v1,v2,v3⟩:=word_app hr [82] (by intro c hc;simp at hc;subst hc;decide)
 have hp:passM false (32::(Lib.itoa g++32::82::r)) false=(Lib.itoa g++32::82::r,false):=by
  rw[pass_sp];have hreg:=itoa_reg g
  cases hl:Lib.itoa g with
  | nil=>exact absurd hl (itoa_ne g)
  | cons c l =>
   obtain⟨e1,e2,_⟩:=reg_pass (hreg c (by rw[hl];simp)).1;exact pass_own _ e1 e2
 have hp2:passM false (32::82::r) false=(82::r,false):=by
  rw[pass_sp];exact pass_own _ (by decide) (by decide)
 have hnum:=itoa_num pf g (by omega) (by omega);simp only[List.singleton_append]at v1 v2 v3;simp only[refF,hp,w1,w2,w3,hp2,v1,v2,v3,hnum];rw[if_neg (by simp),if_neg (by simp[itoa_headDig h3,itoa_headDig (show 0≤n by omega)]),if_neg (by simp;omega)]
 have hlen:(32::(Lib.itoa g++32::82::r)).take ((32::(Lib.itoa g++32::82::r)).length-r.length)=32::(Lib.itoa g++[32,82]):=by
  have e:32::(Lib.itoa g++32::82::r)=(32::(Lib.itoa g++[32,82]))++r:=by simp
  rw[e,List.length_append,Nat.add_sub_cancel,List.take_left]
 rw[hlen]
 have hpc:hasPct (32::(Lib.itoa g++[32,82]))=false:=by
  unfold hasPct;rw[List.any_eq_false];intro c hc;simp only[List.mem_cons,List.mem_append,List.not_mem_nil,or_false]at hc;rcases hc with rfl|hc|rfl|rfl
  ·decide
  ·have:=(itoa_chars g c hc).2.2.2
   intro e;apply this;apply UInt8.toNat_inj.1
   show c.toNat=37
   simp at e;omega
  ·decide
  ·decide
 rw[hpc];rfl
theorem rdArr_sp {f:By→Bool→Rd PV}{m:Nat}{l:By}{acc:List PV} : rdArr f m (32::l) false acc=rdArr f m l false acc:=by
 cases m with
 | zero=>rfl
 | succ m=>simp only[rdArr,pass_sp]
theorem rdDict_sp {f:By→Bool→Rd PV}{m:Nat}{l:By}{ks:List By}{acc:List PV} : rdDict f m (32::l) false ks acc=rdDict f m l false ks acc:=by
 cases m with
 | zero=>rfl
 | succ m=>simp only[rdDict,pass_sp]
theorem rdV_sp {pf:By→Nat}{n:Nat}{l:By} : rdV pf n (32::l) false=rdV pf n l false:=by
 cases n with
 | zero=>rfl
 | succ n=>simp only[rdV,pass_sp]
theorem pr_head (ff:Nat→By)(R:Nat→Prop)(p:PO)(h:okR ff R p):∃c t,prP ff p=c::t∧((isReg (c.toNat:Int)=true∧sepA p=true∧sepD p=true)∨(dl c∧c≠93∧c≠62))∧(sepA p=false→dl c)∧(sepD p=false→dl c):=by
 have word:∀w:By,w≠[]→(∀c∈w,isReg (c.toNat:Int)=true)→∃c t,w=c::t∧isReg (c.toNat:Int)=true:=fun w h1 h2=>by
  cases w with
  | nil=>exact absurd rfl h1
  | cons c w=>exact⟨c,w,rfl,h2 c (by simp)⟩
 cases p with
 | null=>exact⟨_,_,rfl,.inl (by decide),by simp[sepA],by simp[sepD]⟩
 | bool b=>cases b<;>exact⟨_,_,rfl,.inl (by simp[sepA,sepD];decide),by simp[sepA],by simp[sepD]⟩
 | int n =>
  obtain⟨c,t,e,hc⟩:=word (Lib.itoa n) (itoa_ne n) (fun c hc=>(itoa_chars n c hc).1);exact⟨c,t,e,.inl ⟨hc,rfl,rfl⟩,by simp[sepA],by simp[sepD]⟩
 | real x =>
  have hk:=real_chars h.1;obtain⟨c,t,e,hc⟩:=word (ff x) hk.1 (fun c hc=>(hk.2 c hc).1);exact⟨c,t,e,.inl ⟨hc,rfl,rfl⟩,by simp[sepA],by simp[sepD]⟩
 | ref n g =>
  obtain⟨c,t,e,hc⟩:=word (Lib.itoa n) (itoa_ne n) (fun c hc=>(itoa_chars n c hc).1);exact⟨c,t++32::(Lib.itoa g++[32,82]),by simp only[prP];rw[e];rfl,.inl ⟨hc,rfl,rfl⟩,by simp[sepA],by simp[sepD]⟩
 | lit s=>exact⟨40,_,rfl,.inr ⟨.inl rfl,by decide,by decide⟩,fun _=>.inl rfl,fun _=>.inl rfl⟩
 | hexl s=>exact⟨60,_,rfl,.inr ⟨.inr (.inr (.inl rfl)),by decide,by decide⟩,fun _=>.inr (.inr (.inl rfl)),fun _=>.inr (.inr (.inl rfl))⟩
 | name s=>exact⟨47,_,rfl,.inr ⟨.inr (.inl rfl),by decide,by decide⟩,fun _=>.inr (.inl rfl),fun _=>.inr (.inl rfl)⟩
 | arr kids=>exact⟨91,_,rfl,.inr ⟨.inr (.inr (.inr (.inr (.inl rfl)))),by decide,by decide⟩,fun _=>.inr (.inr (.inr (.inr (.inl rfl)))),fun _=>.inr (.inr (.inr (.inr (.inl rfl))))⟩
 | dict keys kids=>exact⟨60,_,rfl,.inr ⟨.inr (.inr (.inl rfl)),by decide,by decide⟩,fun _=>.inr (.inr (.inl rfl)),fun _=>.inr (.inr (.inl rfl))⟩
theorem pr_beg (ff:Nat→By)(R:Nat→Prop)(p:PO)(h:okR ff R p){r:By}(hr:Fol r):Beg (prP ff p++r):=by
 cases p with
 | null=>exact word_beg (w:=wNull) (by decide) (by decide) (by decide) hr.1 hr.2.one
 | bool b =>
  cases b
  ·exact word_beg (w:=wFalse) (by decide) (by decide) (by decide) hr.1 hr.2.one
  ·exact word_beg (w:=wTrue) (by decide) (by decide) (by decide) hr.1 hr.2.one
 | int n=>exact word_beg (itoa_reg n) (itoa_ne n) (itoa_head82 n) hr.1 hr.2.one
 | real x =>
  have hk:=real_chars h.1;refine word_beg (fun c hc=>⟨(hk.2 c hc).1,(hk.2 c hc).2.1⟩) hk.1 ?_ hr.1 hr.2.one
  show headIs (ff x) (· == 82)=false
  cases hl:ff x with
  | nil=>rfl
  | cons c l =>
   have:=(hk.2 c (by rw[hl];simp)).2.2.1;simp only[headIs,beq_eq_false_iff_ne];intro e;apply this;apply UInt8.toNat_inj.1;show c.toNat=82;omega
 | ref n g =>
  simp only[prP,List.append_assoc,List.cons_append];refine word_beg (itoa_reg n) (itoa_ne n) (itoa_head82 n) (endw_sp _) (Beg1.sp ?_);obtain⟨v1,v2,v3⟩:=word_app (endw_sp (82::r)) (Lib.itoa g) (itoa_reg g);have hreg:=itoa_reg g;have h82:=itoa_head82 g
  cases hl:Lib.itoa g with
  | nil=>exact absurd hl (itoa_ne g)
  | cons c l =>
   rw[hl]at v1 v3 h82 hreg;obtain⟨e1,e2,_⟩:=reg_pass (hreg c (by simp)).1;exact⟨c::(l++32::82::r),pass_own _ e1 e2,v3,by rw[←List.cons_append,v1];exact h82⟩
 | lit s=>exact(dl.fol (.inl rfl) _).2
 | hexl s=>exact(dl.fol (.inr (.inr (.inl rfl))) _).2
 | name s=>exact(dl.fol (.inr (.inl rfl)) _).2
 | arr kids=>exact(dl.fol (.inr (.inr (.inr (.inr (.inl rfl))))) _).2
 | dict keys kids=>exact(dl.fol (.inr (.inr (.inl rfl))) _).2
theorem pr_ne (ff:Nat→By)(R:Nat→Prop)(p:PO)(h:okR ff R p):1≤(prP ff p).length:=by
 obtain⟨c,t,e,_⟩:=pr_head ff R p h;rw[e];simp
theorem spA_fol {ff:Nat→By}{R:Nat→Prop}{p:PO}(h:okR ff R p){r:By}(hr:Fol r):Fol (spc (sepA p)++(prP ff p++r)):=by
 cases hs:sepA p with
 | true=>exact(pr_beg ff R p h hr).fol
 | false =>
  obtain⟨c,t,e,_,h2,_⟩:=pr_head ff R p h;refine⟨?_,by simpa[spc] using pr_beg ff R p h hr⟩;rw[e];exact((h2 hs).fol _).1
theorem spD_fol {ff:Nat→By}{R:Nat→Prop}{p:PO}(h:okR ff R p)(r:By):EndW (spc (sepD p)++(prP ff p++r)):=by
 cases hs:sepD p with
 | true=>exact endw_sp _
 | false =>
  obtain⟨c,t,e,_,_,h3⟩:=pr_head ff R p h;rw[e];exact((h3 hs).fol _).1
theorem as_fol (ff:Nat→By)(R:Nat→Prop):∀(ps:List PO),okRs ff R ps→∀r,Fol (prAs ff false ps++93::r):=by
 intro ps
 induction ps with
 | nil=>intro _ r;exact dl.fol (.inr (.inr (.inr (.inr (.inr rfl))))) r
 | cons p ps ih =>
  intro h r;simp only[okRs]at h;simp only[prAs,List.append_assoc,Bool.not_false,Bool.true_and];exact spA_fol h.1 (ih h.2 r)
theorem ds_fol (ff:Nat→By):∀(ks:List By) (ps:List PO),∀r,Fol (prDs ff ks ps++62::62::r):=by
 intro ks ps r
 cases ks with
 | nil =>
  have e:prDs ff [] ps=[]:=by cases ps<;>simp[prDs]
  rw[e];exact dl.fol (.inr (.inr (.inr (.inl rfl)))) _
 | cons k ks =>
  cases ps with
  | nil =>
   have e:prDs ff (k::ks) []=[]:=by simp[prDs]
   rw[e];exact dl.fol (.inr (.inr (.inr (.inl rfl)))) _
  | cons p ps =>
   have e:prDs ff (k::ks) (p::ps)=47::(encN k++(spc (sepD p)++(prP ff p++prDs ff ks ps))):=by simp[prDs]
   rw[e];exact dl.fol (.inr (.inl rfl)) _
theorem as_len (ff:Nat→By)(R:Nat→Prop):∀(ps:List PO) (b:Bool),okRs ff R ps→ps.length≤(prAs ff b ps).length:=by
 intro ps
 induction ps with
 | nil=>intro _ _;simp
 | cons p ps ih =>
  intro b h;simp only[okRs]at h;have h1:=pr_ne ff R p h.1;have h2:=ih false h.2;simp only[prAs,List.length_append,List.length_cons];omega
theorem ds_len (ff:Nat→By):∀(ks:List By) (ps:List PO),ks.length=ps.length→ks.length≤(prDs ff ks ps).length:=by
 intro ks
 induction ks with
 | nil=>intro _ _;simp
 | cons k ks ih =>
  intro ps h
  cases ps with
  | nil=>simp at h
  | cons p ps =>
   have h2:=ih ps (by simpa using h);simp only[prDs,List.length_append,List.length_cons];omega
theorem pr_pass (ff:Nat→By)(R:Nat→Prop)(p:PO)(h:okR ff R p)(r:By)(o:Bool):passM false (prP ff p++r) o=(prP ff p++r,o)∧headIs (prP ff p++r) (· == 93)=false:=by
 obtain⟨c,t,e,h1,_⟩:=pr_head ff R p h;rw[e];rcases h1 with⟨h1,_⟩|⟨h1,h2,_⟩
 ·obtain⟨a,b,d⟩:=reg_pass h1
  refine⟨pass_own _ a b,?_⟩;simp only[isDelim,Bool.or_eq_false_iff]at d;exact d.1.1.1.1.2
 ·refine⟨pass_own _ h1.facts.1 h1.facts.2.1,?_⟩
  simp only[List.cons_append,headIs,beq_eq_false_iff_ne];intro e;apply h2;apply UInt8.toNat_inj.1;show c.toNat=93;omega
mutual
theorem rd_pr (pf:By→Nat)(ff:Nat→By)(R:Nat→Prop):∀(p:PO) (n:Nat) (r:By),okR ff R p→lvP p≤n→Fol r→∃r',rdV pf n (prP ff p++r) false=some (valP (mapR (fun x=>pf (ff x)) p),r',false)∧(r'=r∨r'=32::r)
 | .null,n,r,h,hn,hr=>by
  obtain⟨n,rfl⟩:∃m,n=m+1:=⟨n-1,by simp[lvP]at hn;omega⟩;obtain⟨w1,w2,w3⟩:=word_app hr.1 wNull (by decide);refine⟨r,?_,.inl rfl⟩;simp only[prP];rw[rdV_word (by decide) (by decide)];simp only[rdNum,w1,w2,w3];rw[if_neg (by decide),if_neg (by decide),if_pos trivial];rfl
 | .bool b,n,r,h,hn,hr=>by
  obtain⟨n,rfl⟩:∃m,n=m+1:=⟨n-1,by simp[lvP]at hn;omega⟩;refine⟨r,?_,.inl rfl⟩
  cases b with
  | true =>
   obtain⟨w1,w2,w3⟩:=word_app hr.1 wTrue (by decide);simp only[prP,if_true];rw[rdV_word (by decide) (by decide)];simp only[rdNum,w1,w2,w3,if_true];rfl
  | false =>
   obtain⟨w1,w2,w3⟩:=word_app hr.1 wFalse (by decide);simp only[prP,Bool.false_eq_true,if_false];rw[rdV_word (by decide) (by decide)];simp only[rdNum,w1,w2,w3];rw[if_neg (by decide),if_pos trivial];rfl
 | .int k,n,r,h,hn,hr=>by
  obtain⟨n,rfl⟩:∃m,n=m+1:=⟨n-1,by simp[lvP]at hn;omega⟩;simp only[okR]at h;obtain⟨w1,w2,w3⟩:=word_app hr.1 (Lib.itoa k) (itoa_reg k);refine⟨r,?_,.inl rfl⟩;simp only[prP];rw[rdV_word (itoa_reg k) (itoa_ne k)]
  have hx:∀w:By,w=wTrue∨w=wFalse∨w=wNull→Lib.itoa k≠w:=fun w hw e=>by
   have hs:=itoa_num pf k h.1 h.2;rw[e]at hs;rcases hw with rfl|rfl|rfl
   ·simp[numF,numStrip,wTrue,numScan,isDig]at hs
   ·simp[numF,numStrip,wFalse,numScan,isDig]at hs
   ·simp[numF,numStrip,wNull,numScan,isDig]at hs
  simp only[rdNum,w1,w2,w3,itoa_num pf k h.1 h.2];rw[if_neg (hx _ (.inl rfl)),if_neg (hx _ (.inr (.inl rfl))),if_neg (hx _ (.inr (.inr rfl))),if_neg (by simp),if_neg (by simp)];exact ref_int k _ hr.2
 | .real x,n,r,h,hn,hr=>by
  obtain⟨n,rfl⟩:∃m,n=m+1:=⟨n-1,by simp[lvP]at hn;omega⟩;simp only[okR]at h;have hk:=real_chars h.1;have hreg:∀c∈ff x,isReg (c.toNat:Int)=true∧isPlain (c.toNat:Int)=true:=fun c hc=>⟨(hk.2 c hc).1,(hk.2 c hc).2.1⟩;obtain⟨w1,w2,w3⟩:=word_app hr.1 (ff x) hreg;refine⟨r,?_,.inl rfl⟩;simp only[prP];rw[rdV_word hreg hk.1]
  have hx:∀w:By,w=wTrue∨w=wFalse∨w=wNull→ff x≠w:=fun w hw e=>by
   rw[e]at hk;rcases hw with rfl|rfl|rfl
   ·exact(hk.2 116 (by decide)).2.2.2.1 rfl
   ·exact(hk.2 102 (by decide)).2.2.2.2.1 rfl
   ·exact(hk.2 110 (by decide)).2.2.2.2.2 rfl
  simp only[rdNum,w1,w2,w3,real_num pf h.1];rw[if_neg (hx _ (.inl rfl)),if_neg (hx _ (.inr (.inl rfl))),if_neg (hx _ (.inr (.inr rfl))),if_neg (by simp),if_pos (by simp)];rfl
 | .ref k g,n,r,h,hn,hr=>by
  obtain⟨n,rfl⟩:∃m,n=m+1:=⟨n-1,by simp[lvP]at hn;omega⟩;simp only[okR]at h;obtain⟨w1,w2,w3⟩:=word_app (endw_sp (Lib.itoa g++32::82::r)) (Lib.itoa k) (itoa_reg k);refine⟨r,?_,.inl rfl⟩;have e:prP ff (.ref k g)++r=Lib.itoa k++32::(Lib.itoa g++32::82::r):=by simp[prP]
  rw[e,rdV_word (itoa_reg k) (itoa_ne k)];have hnum:=itoa_num pf k (by omega) (by omega)
  have hx:∀w:By,w=wTrue∨w=wFalse∨w=wNull→Lib.itoa k≠w:=fun w hw e=>by
   have hs:=hnum;rw[e]at hs;rcases hw with rfl|rfl|rfl
   ·simp[numF,numStrip,wTrue,numScan,isDig]at hs
   ·simp[numF,numStrip,wFalse,numScan,isDig]at hs
   ·simp[numF,numStrip,wNull,numScan,isDig]at hs
  simp only[rdNum,w1,w2,w3,hnum];rw[if_neg (hx _ (.inl rfl)),if_neg (hx _ (.inr (.inl rfl))),if_neg (hx _ (.inr (.inr rfl))),if_neg (by simp),if_neg (by simp)];exact ref_ref k g h.1 h.2.2.1 h.2.2.2 hr.1
 | .lit s,n,r,h,hn,hr=>by
  obtain⟨n,rfl⟩:∃m,n=m+1:=⟨n-1,by simp[lvP]at hn;omega⟩;simp only[okR]at h;obtain⟨t,ht⟩:=h;refine⟨r,?_,.inl rfl⟩;have e:prP ff (.lit s)++r=40::(s++41::r):=by simp[prP]
  have h1:=lit_read ht r;have h2:litT s=t:=by unfold litT;rw[ht]
  rw[e];simp only[rdV,pass_own false (show isWhite ((40:UInt8).toNat:Int)=false by decide) (by decide)];rw[if_pos (by decide),h1];simp only[mapR,valP,h2];rfl
 | .hexl s,n,r,h,hn,hr=>by
  obtain⟨n,rfl⟩:∃m,n=m+1:=⟨n-1,by simp[lvP]at hn;omega⟩;simp only[okR]at h;refine⟨r,?_,.inl rfl⟩;have e:prP ff (.hexl s)++r=60::(s++62::r):=by simp[prP]
  have h1:=hex_read h r
  have h2:is2 (60::(s++62::r)) 60=false:=by
   cases s with
   | nil=>rfl
   | cons c s =>
    have:=hexVal_char (h c (by simp));simp[is2];omega
  rw[e];simp only[rdV,pass_own false (show isWhite ((60:UInt8).toNat:Int)=false by decide) (by decide),h2,h1];rw[if_neg (by decide),if_neg (by decide),if_pos (by decide),if_pos (by decide)];rfl
 | .name s,n,r,h,hn,hr=>by
  obtain⟨n,rfl⟩:∃m,n=m+1:=⟨n-1,by simp[lvP]at hn;omega⟩;simp only[okR]at h
  by_cases hs:s=[]
  ·subst hs
   refine⟨32::r,?_,.inr rfl⟩;have e:prP ff (.name [])++r=47::32::r:=by simp[prP]
   obtain⟨w1,w2,w3⟩:=word_app (endw_sp r) [] (by simp);simp only[List.nil_append]at w1 w2 w3;rw[e];simp only[rdV,pass_own false (show isWhite ((47:UInt8).toNat:Int)=false by decide) (by decide),w1,w2,w3,is2];rfl
  ·refine⟨r,?_,.inl rfl⟩
   have e:prP ff (.name s)++r=47::(encN s++r):=by simp[prP,hs]
   obtain⟨w1,w2,w3⟩:=word_app hr.1 (encN s) (encN_chars s);have hb:=nameB_enc s [] h
   have h2:is2 (47::(encN s++r)) 60=false:=by
    cases hl:encN s++r<;>simp[is2]
   rw[e];simp only[rdV,pass_own false (show isWhite ((47:UInt8).toNat:Int)=false by decide) (by decide),w1,w2,w3,h2,hb];rw[if_neg (by decide),if_neg (by decide),if_neg (by decide),if_pos (by decide)];rfl
 | .arr kids,n,r,h,hn,hr=>by
  obtain⟨n,rfl⟩:∃m,n=m+1:=⟨n-1,by simp[lvP]at hn;omega⟩;simp only[okR]at h;simp only[lvP]at hn;refine⟨r,?_,.inl rfl⟩;have e:prP ff (.arr kids)++r=91::(prAs ff true kids++93::r):=by simp[prP]
  have h2:is2 (91::(prAs ff true kids++93::r)) 60=false:=by
   cases hl:prAs ff true kids++93::r<;>simp[is2]
  have hl:=as_len ff R kids true h;have h3:=rd_as pf ff R kids n true (prAs ff true kids++93::r).length r [] h (by omega) (by simp;omega);rw[e];simp only[rdV,pass_own false (show isWhite ((91:UInt8).toNat:Int)=false by decide) (by decide),h2,h3];rw[if_neg (by decide),if_neg (by decide),if_neg (by decide),if_neg (by decide),if_pos (by decide)];simp[mapR,valP]
 | .dict keys kids,n,r,h,hn,hr=>by
  obtain⟨n,rfl⟩:∃m,n=m+1:=⟨n-1,by simp[lvP]at hn;omega⟩;simp only[okR]at h;simp only[lvP]at hn;obtain⟨g1,g2,g3,g4⟩:=h;refine⟨r,?_,.inl rfl⟩;have e:prP ff (.dict keys kids)++r=60::60::(prDs ff keys kids++62::62::r):=by simp[prP]
  have hl:=ds_len ff keys kids g1;have h3:=rd_ds pf ff R kids n keys (prDs ff keys kids++62::62::r).length r [] [] g1 g3 (by simpa using g2) g4 (by omega) (by simp;omega);rw[e];simp only[rdV,pass_own false (show isWhite ((60:UInt8).toNat:Int)=false by decide) (by decide),List.tail_cons,h3];rw[if_neg (by decide),if_pos (by simp[is2])];simp[mapR,valP]
theorem rd_as (pf:By→Nat)(ff:Nat→By)(R:Nat→Prop):∀(ps:List PO) (n:Nat) (b:Bool) (m:Nat) (r:By) (acc:List PV),okRs ff R ps→lvPs ps≤n→ps.length<m →
  rdArr (rdV pf n) m (prAs ff b ps++93::r) false acc=some (acc++valPs (mapRs (fun x=>pf (ff x)) ps),r,false)
 | [],n,b,m,r,acc,h,hn,hm=>by
  obtain⟨m,rfl⟩:∃k,m=k+1:=⟨m-1,by simp at hm;omega⟩;simp only[prAs,List.nil_append,rdArr,pass_own false (show isWhite ((93:UInt8).toNat:Int)=false by decide) (by decide)];rw[if_pos (show headIs (93::r) (· == 93)=true from rfl)];simp[mapRs,valPs]
 | p :: ps, n, b, m, r, acc, h, hn, hm => by
  simp only[okRs]at h;simp only[lvPs]at hn;obtain⟨m,rfl⟩:∃k,m=k+1:=⟨m-1,by simp at hm;omega⟩
  have hsp:rdArr (rdV pf n) (m+1) (prAs ff b (p::ps)++93::r) false acc=rdArr (rdV pf n) (m+1) (prP ff p++(prAs ff false ps++93::r)) false acc:=by
   simp only[prAs,List.append_assoc]
   cases hb:(!b&&sepA p) with
   | true=>exact rdArr_sp
   | false=>rfl
  rw[hsp];obtain⟨e1,e2⟩:=pr_pass ff R p h.1 (prAs ff false ps++93::r) false;obtain⟨r',h1,h2⟩:=rd_pr pf ff R p n (prAs ff false ps++93::r) h.1 (by omega) (as_fol ff R ps h.2 r);have h3:=rd_as pf ff R ps n false m r (acc++[valP (mapR (fun x=>pf (ff x)) p)]) h.2 (by omega) (by simp at hm;omega)
  have h4:rdArr (rdV pf n) m r' false (acc++[valP (mapR (fun x=>pf (ff x)) p)])=some (acc++[valP (mapR (fun x=>pf (ff x)) p)]++valPs (mapRs (fun x=>pf (ff x)) ps),r,false):=by
   rcases h2 with rfl|rfl
   ·exact h3
   ·rw[rdArr_sp];exact h3
  simp only[rdArr,e1,e2,h1,h4,Bool.false_eq_true,if_false];simp[mapRs,valPs]
theorem rd_ds (pf:By→Nat)(ff:Nat→By)(R:Nat→Prop):∀(ps:List PO) (n:Nat) (keys:List By) (m:Nat) (r:By) (ks:List By) (acc:List PV),keys.length=ps.length→(∀k∈keys,35∉k∧∀c∈k,(c.toNat:Int)≠0)→(ks++keys).Nodup→okRs ff R ps→lvPs ps≤n→ps.length<m →
  rdDict (rdV pf n) m (prDs ff keys ps++62::62::r) false ks acc=some ((ks++keys,acc++valPs (mapRs (fun x=>pf (ff x)) ps)),r,false)
 | [],n,keys,m,r,ks,acc,hl,hk,hnd,h,hn,hm=>by
  obtain⟨m,rfl⟩:∃k,m=k+1:=⟨m-1,by simp at hm;omega⟩;obtain rfl:keys=[]:=List.eq_nil_of_length_eq_zero (by simpa using hl);simp only[prDs,List.nil_append,rdDict,pass_own false (show isWhite ((62:UInt8).toNat:Int)=false by decide) (by decide)];rw[if_pos (by simp[is2])];simp[mapRs,valPs]
 | p::ps,n,[],m,r,ks,acc,hl,hk,hnd,h,hn,hm=>by simp at hl
 | p :: ps, n, k :: keys, m, r, ks, acc, hl, hk, hnd, h, hn, hm => by
  simp only[okRs]at h;simp only[lvPs]at hn;obtain⟨m,rfl⟩:∃k,m=k+1:=⟨m-1,by simp at hm;omega⟩;have e:prDs ff (k::keys) (p::ps)++62::62::r=47::(encN k++(spc (sepD p)++(prP ff p++(prDs ff keys ps++62::62::r)))):=by simp[prDs]
  have hF:=ds_fol ff keys ps r;generalize hT:prDs ff keys ps++62::62::r=T at *;obtain⟨w1,w2,w3⟩:=word_app (spD_fol h.1 T) (encN k) (encN_chars k);obtain⟨r',h1,h2⟩:=rd_pr pf ff R p n T h.1 (by omega) hF
  have hv:rdV pf n (spc (sepD p)++(prP ff p++T)) false=some (valP (mapR (fun x=>pf (ff x)) p),r',false):=by
   cases hs:sepD p with
   | true=>exact rdV_sp.trans h1
   | false=>exact h1
  have hnd2:(ks++[k]++keys).Nodup:=by simpa using hnd
  have h3:=rd_ds pf ff R ps n keys m r (ks++[k]) (acc++[valP (mapR (fun x=>pf (ff x)) p)]) (by simpa using hl) (fun q hq=>hk q (by simp[hq])) hnd2 h.2 (by omega) (by simp at hm;omega);rw[hT]at h3
  have h4:rdDict (rdV pf n) m r' false (ks++[k]) (acc++[valP (mapR (fun x=>pf (ff x)) p)])=some ((ks++[k]++keys,acc++[valP (mapR (fun x=>pf (ff x)) p)]++valPs (mapRs (fun x=>pf (ff x)) ps)),r,false):=by
   rcases h2 with rfl|rfl
   ·exact h3
   ·rw[rdDict_sp];exact h3
  have hk1:=hk k (by simp)
  have hkn:k∉ks:=by
   intro hin;rw[List.nodup_append]at hnd;exact hnd.2.2 k hin k (by simp) rfl
  have hb:=nameB_enc k [] hk1.2
  have hi:is2 (47::(encN k++(spc (sepD p)++(prP ff p++T)))) 62=false:=by
   cases hl:encN k++(spc (sepD p)++(prP ff p++T))<;>simp[is2]
  rw[e];simp only[rdDict,pass_own false (show isWhite ((47:UInt8).toNat:Int)=false by decide) (by decide),hi,List.tail_cons,w1,w2,w3,hb,List.nil_append];rw[if_neg (by simp),if_pos (show headIs (47::(encN k++(spc (sepD p)++(prP ff p++T)))) (· == 47)=true from rfl),if_neg (by simp[hk1.1,hkn])];simp only[hv,h4];simp[mapRs,valPs]
end
mutual
theorem same_map (ff:Nat→By)(R:Nat→Prop)(eqv:Nat→Nat→Prop)(f:Nat→Nat)(hR:∀x,R x→eqv (f x) x):∀(p:PO) (n:Nat),okR ff R p→lvP p≤n→SameN eqv n (valP (mapR f p)) (valP p)
 | .null,n,h,hn=>by
  obtain⟨n,rfl⟩:∃m,n=m+1:=⟨n-1,by simp[lvP]at hn;omega⟩;simp[mapR,valP,SameN]
 | .bool b,n,h,hn=>by
  obtain⟨n,rfl⟩:∃m,n=m+1:=⟨n-1,by simp[lvP]at hn;omega⟩;simp[mapR,valP,SameN]
 | .int b,n,h,hn=>by
  obtain⟨n,rfl⟩:∃m,n=m+1:=⟨n-1,by simp[lvP]at hn;omega⟩;simp[mapR,valP,SameN]
 | .real x,n,h,hn=>by
  obtain⟨n,rfl⟩:∃m,n=m+1:=⟨n-1,by simp[lvP]at hn;omega⟩;simp only[okR]at h;simp only[mapR,valP,SameN];exact hR x h.2
 | .lit b,n,h,hn=>by
  obtain⟨n,rfl⟩:∃m,n=m+1:=⟨n-1,by simp[lvP]at hn;omega⟩;simp[mapR,valP,SameN]
 | .hexl b,n,h,hn=>by
  obtain⟨n,rfl⟩:∃m,n=m+1:=⟨n-1,by simp[lvP]at hn;omega⟩;simp[mapR,valP,SameN]
 | .name b,n,h,hn=>by
  obtain⟨n,rfl⟩:∃m,n=m+1:=⟨n-1,by simp[lvP]at hn;omega⟩;simp[mapR,valP,SameN]
 | .ref b c,n,h,hn=>by
  obtain⟨n,rfl⟩:∃m,n=m+1:=⟨n-1,by simp[lvP]at hn;omega⟩;simp[mapR,valP,SameN]
 | .arr kids,n,h,hn=>by
  obtain⟨n,rfl⟩:∃m,n=m+1:=⟨n-1,by simp[lvP]at hn;omega⟩;simp only[okR]at h;simp only[lvP]at hn;simp only[mapR,valP,SameN];obtain⟨h1,h2,_⟩:=sames_map ff R eqv f hR kids n h (by omega);exact⟨h1,h2⟩
 | .dict keys kids,n,h,hn=>by
  obtain⟨n,rfl⟩:∃m,n=m+1:=⟨n-1,by simp[lvP]at hn;omega⟩;simp only[okR]at h;simp only[lvP]at hn;obtain⟨g1,g2,g3,g4⟩:=h;simp only[mapR,valP,SameN];obtain⟨h1,h2,h3⟩:=sames_map ff R eqv f hR kids n g4 (by omega);have hl:(valPs kids).length=kids.length:=by rw[valPs_map];simp
  refine⟨by omega,by omega,?_,fun i k a hk ha hna=>?_⟩
  ·unfold nnz
   have e:∀(l m:List PV),l.length=m.length→(∀(i:Nat) a b,l[i]?=some a→m[i]?=some b→a.isNull=b.isNull)→(l.filter fun x=>!x.isNull).length=(m.filter fun x=>!x.isNull).length:=by
    intro l
    induction l with
    | nil=>intro m hm _;cases m with|nil=>rfl|cons _ _=>simp at hm
    | cons a l ih =>
     intro m hm hh
     cases m with
     | nil=>simp at hm
     | cons b m =>
      have h0:=hh 0 a b (by simp) (by simp);have:=ih m (by simpa using hm) (fun i a b ha hb=>hh (i+1) a b (by simpa using ha) (by simpa using hb));simp only[List.filter_cons,h0]
      split<;>simp[this]
   exact e _ _ h1 h3
  ·have hi:=(List.getElem?_eq_some_iff.1 ha).1
   have hb:(valPs kids)[i]?=some ((valPs kids)[i]'(by omega)):=List.getElem?_eq_getElem _;refine⟨i,_,hk,nodup_first g2 hk,hb,?_,h2 i _ _ ha hb⟩;rw[←h3 i _ _ ha hb];exact hna
theorem sames_map (ff:Nat→By)(R:Nat→Prop)(eqv:Nat→Nat→Prop)(f:Nat→Nat)(hR:∀x,R x→eqv (f x) x):∀(ps:List PO) (n:Nat),okRs ff R ps→lvPs ps≤n→(valPs (mapRs f ps)).length=(valPs ps).length∧(∀(i:Nat) a b,(valPs (mapRs f ps))[i]?=some a→(valPs ps)[i]?=some b→SameN eqv n a b)∧∀(i:Nat) a b,(valPs (mapRs f ps))[i]?=some a→(valPs ps)[i]?=some b→a.isNull=b.isNull
 | [],n,h,hn=>by simp[mapRs,valPs]
 | p :: ps, n, h, hn => by
  simp only[okRs]at h;simp only[lvPs]at hn;have h1:=same_map ff R eqv f hR p n h.1 (by omega);obtain⟨h2,h3,h4⟩:=sames_map ff R eqv f hR ps n h.2 (by omega);have hnull:(valP (mapR f p)).isNull=(valP p).isNull:=by cases p<;>rfl
  simp only[mapRs,valPs];refine⟨by simp[h2],fun i a b ha hb=>?_,fun i a b ha hb=>?_⟩
  ·cases i with
   | zero=>simp at ha hb;subst ha;subst hb;exact h1
   | succ i=>exact h3 i a b (by simpa using ha) (by simpa using hb)
  ·cases i with
   | zero=>simp at ha hb;subst ha;subst hb;exact hnull
   | succ i=>exact h4 i a b (by simpa using ha) (by simpa using hb)
end
open Go Go.RowKit
theorem nhex_any (n:Int)(w:World):Calls Tryz.prog 280 #[.int .u8 n] w fun e w'=>e=.returned (.bool (needHex n))∧w'=w:=by
 by_cases h1:n<33
 all_goals
  go_enter Tryz.func280,Tryz.ntmps280
  go_wp2
  all_goals (go_ret;exact⟨by simp_all[needHex]<;>omega,rfl⟩)
theorem bs_app (a b:By):bs a++bs b=bs (a++b):=by
 apply ByteArray.ext;simp[bs]
theorem sstr_any (l:By)(hl:l.length≤1000000000)(w:World):Calls Tryz.prog 272 #[.string (bs l)] w fun e w'=>e=.returned (.string (bs (40::(l++[41]))))∧w'=w:=by
 have e1:(⟨#[40]⟩:ByteArray)=bs [40]:=rfl;have e2:(⟨#[41]⟩:ByteArray)=bs [41]:=rfl;have s0:=bs_size l;have s1:(bs [40]).size=1:=rfl;have s2:(bs [41]).size=1:=rfl;go_enter Tryz.func272,Tryz.ntmps272
 go_wp2
 all_goals first|omega|skip
 go_ret;exact⟨by simp only[bs_app];rfl,rfl⟩
theorem hstr_any (l:By)(hl:l.length≤1000000000)(w:World):Calls Tryz.prog 275 #[.string (bs l)] w fun e w'=>e=.returned (.string (bs (60::(l++[62]))))∧w'=w:=by
 have e1:(⟨#[60]⟩:ByteArray)=bs [60]:=rfl;have e2:(⟨#[62]⟩:ByteArray)=bs [62]:=rfl;have s0:=bs_size l;have s1:(bs [60]).size=1:=rfl;have s2:(bs [62]).size=1:=rfl;go_enter Tryz.func275,Tryz.ntmps275
 go_wp2
 all_goals first|omega|skip
 go_ret;exact⟨by simp only[bs_app];rfl,rfl⟩
theorem spdf_any (l:By)(hl:l.length≤1000000000)(w:World):Calls Tryz.prog 271 #[.string (bs l)] w fun e w'=>e=.returned (.string (bs (40::(l++[41]))))∧w'=w:=by
 go_enter Tryz.func271,Tryz.ntmps271;go_wp2_with (go_at_call 272;refine(sstr_any l hl _).mono ?_;rintro e w'⟨rfl,rfl⟩)
 go_ret;exact⟨rfl,rfl⟩
theorem hpdf_any (l:By)(hl:l.length≤1000000000)(w:World):Calls Tryz.prog 274 #[.string (bs l)] w fun e w'=>e=.returned (.string (bs (60::(l++[62]))))∧w'=w:=by
 go_enter Tryz.func274,Tryz.ntmps274;go_wp2_with (go_at_call 275;refine(hstr_any l hl _).mono ?_;rintro e w'⟨rfl,rfl⟩)
 go_ret;exact⟨rfl,rfl⟩
end Go.Proofs.YtfkecmlmnhbmoaaGreatDoor
