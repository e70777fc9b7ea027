/- Parts F13 F14 G7 G8 G9 Q3 P23. -/
import Derived.Test.YtfkecmlmnhbmoaaGreatDoorX23
set_option linter.unusedVariables false
set_option linter.unusedSimpArgs false
set_option maxRecDepth 100000
set_option maxHeartbeats 40000000
namespace Go.Proofs.YtfkecmlmnhbmoaaGreatDoor
open Go Go.RowKit
def a9d (l:By)(n:Nat):Ending:=.returned (.tuple #[.int .u64 (rfF (a0i l) 0 0 0 false).1,.int .i64 (if (rfF (a0i l) 0 0 0 false).1=0 then 0 else (rfF (a0i l) 0 0 0 false).2.2.1-(min (rfF (a0i l) 0 0 0 false).2.1 19:Nat)),
 .bool (a0p l (· == 45)),.bool (rfF (a0i l) 0 0 0 false).2.2.2,.bool false,.int .i64 n,.bool true])
theorem a9i {A:By}{n:Nat}(h:n<A.length)(c:UInt8):(A.set n c).take (n+1)=A.take n++[c]:=by
 rw[List.set_eq_take_append_cons_drop,if_pos h,List.take_append,List.length_take,Nat.min_eq_left (by omega)];simp;rw[List.take_of_length_le (by simp;omega)]
theorem DecN.digit {w:World}{b N:Nat}{dp:Int}{neg tr:Bool}(h:DecN w b N dp neg tr){c:UInt8}(h1:48≤c.toNat)(h2:c.toNat≤57)(h0:¬(c.toNat=48∧N=0))(h8:numD N≤799) :
  DecN ((w.setCell ⟨b,numD N,none⟩ (.int .u8 (c.toNat:Int))).setCell ⟨b,800,none⟩ (.int .i64 ((numD N:Nat)+1))) b (10*N+(c.toNat-48)) dp neg tr:=by
 obtain⟨h3,A,hD,hds,hdv⟩:=h;have hd:=a5f (N:=N) (d:=c.toNat-48) (by omega) (fun x=>h0 ⟨by omega,x.2⟩);have hl:=hD.1;have ht:=a9i (A:=A) (n:=numD N) (by omega) c;refine⟨by omega,A.set (numD N) c,?_,?_,?_⟩
 ·have:=(hD.setDig (i:=numD N) (by omega) c).setNd (numD N+1)
  rw[hd];simpa using this
 ·rw[hd,ht];exact a5F hds h1 h2
 ·rw[hd,ht,a6V,hdv]
theorem DecN.setDp {w:World}{b N:Nat}{dp:Int}{neg tr:Bool}(h:DecN w b N dp neg tr)(n:Int):DecN (w.setCell ⟨b,801,none⟩ (.int .i64 n)) b N n neg tr:=by
 obtain⟨h3,A,hD,hds,hdv⟩:=h;exact⟨h3,A,hD.setDp n,hds,hdv⟩
theorem DecN.drewN {w:World}{b N:Nat}{dp:Int}{neg tr:Bool}(h:DecN w b N dp neg tr)(n:Nat):DecN (w.drewN n) b N dp neg tr:=h.heap rfl
theorem DecN.zero {w:World}{b:Nat}{A:By}{neg tr:Bool}{dp:Int}(h:a0O w b A 0 dp neg tr):DecN w b 0 dp neg tr:=by
 refine⟨by rw[a1n];omega,A,by rw[a1n];exact h,?_,?_⟩
 ·rw[a1n];intro x hx;cases hx
 ·rw[a1n];simp[dv]
def idxB (c:UInt8):By→Int
 | []=>-1
 | d::l=>if d=c then 0 else (if idxB c l=-1 then -1 else idxB c l+1)
theorem b6P (c:UInt8):∀(a b:By),c∉a→idxB c (a++c::b)=a.length:=by
 intro a
 induction a with
 | nil=>intro b _;simp[idxB]
 | cons d a ih =>
  intro b h;simp only[List.mem_cons,not_or]at h;have:=ih b h.2;simp only[List.cons_append,idxB,if_neg (Ne.symm h.1),this];rw[if_neg (by omega)];simp
theorem b1O (c:UInt8):∀(a:By),c∉a→idxB c a=-1:=by
 intro a
 induction a with
 | nil=>intro _;rfl
 | cons d a ih =>
  intro h;simp only[List.mem_cons,not_or]at h;simp only[idxB,if_neg (Ne.symm h.1),ih h.2,if_true]
theorem a7M (l:By)(c:UInt8)(hl:l.length≤1000000000)(w:World):Calls Tryz.prog 192 #[.string (bs l),.string (bs [c])] w fun e w'=>e=.returned (.int .i64 (idxB c l))∧w'=w:=by
 obtain⟨X,hX⟩:∃X,idxB c l=X:=⟨_,rfl⟩;rw[hX];have HX:=xhd hX;clear hX;obtain⟨z,hz⟩:∃z,z=bs l:=⟨_,rfl⟩;obtain⟨y,hy⟩:∃y,y=bs [c]:=⟨_,rfl⟩;rw[←hz,←hy];have hzs:z.size=l.length:=by rw[hz,a0f]
 have hys:y.size=1:=by rw[hy,a0f];rfl
 obtain⟨Hz,Hy⟩:=xh2 hz hy;clear hz hy;go_enter Tryz.func192,Tryz.ntmps192;go_wp2_with fail
 go_loopg [5] l.length (fun g t5 wr=>∃(pre rest:By),g=rest.length∧l=pre++rest∧t5=.int .i64 pre.length∧wr=w∧X=if idxB c rest=-1 then -1 else pre.length+idxB c rest)
 case atStart=>exact⟨[],l,rfl,rfl,rfl,rfl,by rw[HX.out];by_cases h:X=-1<;>simp[h]⟩
 case round =>
  obtain⟨pre,rest,hg,hp,rfl,rfl,hx⟩:=hrel;have hpl:pre.length+rest.length=l.length:=by rw[hp];simp
  have Hg:=xhd hg
  cases rest with
  | nil =>
   have hx':X=-1:=by simpa[idxB] using hx
   subst hx';have hle:¬((pre.length:Int)+1≤(l.length:Int)):=by simp at hpl;omega
   clear hg hp hx;go_wp2_with fail
   go_ret;exact⟨rfl,rfl⟩
  | cons d rest =>
   have hle:(pre.length:Int)+1≤(l.length:Int):=by simp at hpl;omega
   have hle2:pre.length+1≤l.length:=by simp at hpl;omega
   have hcut:z.extract pre.length (pre.length+1)=bs [d]:=by
    rw[Hz.out,a1B,hp];congr 1;rw[show pre++d::rest=(pre++[d])++rest by simp,List.take_left' (by simp),List.drop_left' rfl]
   obtain⟨HC,Hx,Hp⟩:=xh3 hcut hx hp;clear hg hp hx hcut
   by_cases hd:d=c
   ·have heq:((z.extract pre.length (pre.length+1)).toList==y.toList)=true:=by rw[HC.out,Hy.out,hd];simp
    have hx':X=pre.length:=by have:=Hx.out;simp[idxB,hd]at this;omega
    subst hx';go_wp2_with fail
    go_ret;exact⟨rfl,rfl⟩
   ·have heq:((z.extract pre.length (pre.length+1)).toList==y.toList)=false:=by
     rw[HC.out,Hy.out,ByteArray.toList_eq,ByteArray.toList_eq,a1D,a1D];simpa using hd
    go_wp2_with fail
    go_roundg rest.length
    case measure=>rw[Hg.out];simp
    case rel =>
     refine⟨pre++[d],rest,rfl,by rw[Hp.out];simp,by simp,rfl,?_⟩;have:=Hx.out;simp only[idxB,if_neg hd]at this;rw[this]
     by_cases h1:idxB c rest=-1
     ·simp[h1]
     ·rw[if_neg h1,if_neg h1,if_neg]
      ·simp;omega
      ·have:∀l:By,-1≤idxB c l:=by
        intro l
        induction l with
        | nil=>simp[idxB]
        | cons e l ih=>simp only[idxB];(repeat' split)<;>omega
       have:=this rest;omega
theorem b1Q (s:ByteArray)(r:Nat)(hr:r<128)(w:World):Calls Tryz.prog 233 #[.string s,.int .i32 r] w fun e w'=>e=.returned (.int .i64 (Lib.idxFunc (fun x=>x==r) true s))∧Below w.heap.size w w':=by
 obtain⟨X,hX⟩:∃X,Lib.idxFunc (fun x=>x==r) true s=X:=⟨_,rfl⟩;rw[hX];have HX:=xhd hX;clear hX;have h0:((r:Int) != 65533)=true:=by simp;omega
 have h1:¬(r:Int)<0:=by omega
 have h2:¬1114111<(r:Int):=by omega
 have h3:¬55296≤(r:Int):=by omega
 go_enter Tryz.func233,Tryz.ntmps233;go_wp2_with fail
 go_loopg [] s.size (fun gf wx=>∃pos:Nat,wx.heap[w.heap.size]?=some (.stringIter s pos)∧Below w.heap.size w wx∧Lib.idxFuncFrom (fun x=>x==r) true s gf pos=X∧s.size≤pos+gf)
 case atStart=>exact⟨0,World.iter_heap w s 0,(Below.refl _ w).alloc (Nat.le_refl _) _,HX.out,by omega⟩
 case round =>
  obtain⟨pos,hit,hbw,hleft,hfu⟩:=hrel
  by_cases hps:pos<s.size
  ·obtain⟨g',rfl⟩:∃g',gk=g'+1:=⟨gk-1,by omega⟩
   have hnx:∀ty,(Instr.next (.pointer (some ⟨w.heap.size,0,none⟩)) true ty).run Tryz.prog wr=_:=fun ty=>Lib.run_next_any_at wr w.heap.size s pos ty hit hps;have hwd:=Lib.width_pos s pos;obtain⟨R,hR⟩:∃R,(Utf8.decode s pos).1=R:=⟨_,rfl⟩;obtain⟨K,hK⟩:∃K,(Utf8.decode s pos).2=K:=⟨_,rfl⟩;simp only[Lib.idxFuncFrom,hps,if_true,hR,hK]at hleft;rw[hR,hK]at hnx;rw[hK]at hwd;have hit2:=Lib.iterAt_heap wr w.heap.size s pos (pos+K) hit;have hbw2:=Lib.below_iterAt hbw (k:=w.heap.size) (Nat.le_refl _) s (pos+K);obtain⟨W,hWd⟩:∃W,wr.iterAt w.heap.size s (pos+K)=W:=⟨_,rfl⟩;rw[hWd]at hnx hit2 hbw2
   by_cases he:R=r
   ·have he2:((R:Int)==(r:Int))=true:=by rw[he];simp
    have hx:(pos:Int)=X:=by rw[←hleft,if_pos (by simpa using he)]
    subst hx;clear hleft;go_wp2_with fail
    go_ret;exact⟨rfl,hbw2⟩
   ·have he2:((R:Int)==(r:Int))=false:=by simp only[beq_eq_false_iff_ne];omega
    rw[if_neg (by simpa using he)]at hleft;have HL:=xhd hleft;clear hleft;go_wp2_with fail
    go_roundg g'
    case measure=>omega
    case rel=>exact⟨pos+K,hit2,hbw2,HL.out,by omega⟩
  ·have hnx:∀ty,(Instr.next (.pointer (some ⟨w.heap.size,0,none⟩)) true ty).run Tryz.prog wr=_:=fun ty=>Lib.run_next_end_at wr w.heap.size s pos ty hit hps
   rw[Lib.idxFuncFrom_end _ _ _ _ _ hps]at hleft;subst hleft;go_wp2_with fail
   go_ret;exact⟨rfl,hbw⟩
theorem b6L (cs:By)(hcs:∀c∈cs,(c.toNat:Int)<128)(c:UInt8)(hc:(c.toNat:Int)<128)(b:Bool)(hb:decide (c∈cs)=b)(w:World):Calls Tryz.prog 224 #[.string (bs cs),.int .i32 c.toNat] w fun e w'=>e=.returned (.bool b)∧Below w.heap.size w w':=by
 have hx : decide (0 ≤ Lib.idxFunc (fun x => x == c.toNat) true (bs cs)) = b := by
  rw[←hb]
  by_cases h:c∈cs
  ·obtain⟨a,d,rfl⟩:∃a d,cs=a++c::d:=List.append_of_mem h |>.elim fun a ⟨d,e⟩=>⟨a,d,e⟩
   have hr:=Lib.idxFunc_range (fun x=>x==c.toNat) true (bs (a++c::d));rcases hr with hr|hr
   ·exfalso
    have key:∀(pre a:By) (f:Nat),a.length<f→(∀x∈a,(x.toNat:Int)<128)→Lib.idxFuncFrom (fun x=>x==c.toNat) true (bs (pre++(a++c::d))) f pre.length≠-1:=by
     intro pre a
     induction a generalizing pre with
     | nil =>
      intro f hf _;obtain⟨f,rfl⟩:∃f',f=f'+1:=⟨f-1,by simp at hf;omega⟩;have hlt:pre.length<(bs (pre++([]++c::d))).size:=by rw[a0f];simp
      unfold Lib.idxFuncFrom;rw[if_pos hlt,List.nil_append,a1G pre c d hc,if_pos (by simp)];omega
     | cons x a ih =>
      intro f hf ha;obtain⟨f,rfl⟩:∃f',f=f'+1:=⟨f-1,by simp at hf;omega⟩;have hlt:pre.length<(bs (pre++(x::a++c::d))).size:=by rw[a0f];simp
      unfold Lib.idxFuncFrom;rw[if_pos hlt,List.cons_append,a1G pre x (a++c::d) (ha x (by simp))]
      split
      ·omega
      ·have:=ih (pre++[x]) f (by simp at hf;omega) (fun y hy=>ha y (by simp[hy]))
       simpa using this
    have:=key [] a (bs (a++c::d)).size (by rw[a0f];simp) (fun x hx=>hcs x (by simp[hx]));exact this (by simpa[Lib.idxFunc] using hr)
   ·simp[hr.1]
  ·have h2:Lib.idxFunc (fun x=>x==c.toNat) true (bs (cs++[]))=-1:=by
    rw[a2U _ cs [] (fun x hx=>⟨hcs x hx,by
     simp only[beq_eq_false_iff_ne];intro e
     exact h (UInt8.toNat_inj.1 e▸hx)⟩) (by simp)]
    simp
   rw[List.append_nil]at h2;rw[h2];simp[h]
 go_enter Tryz.func224,Tryz.ntmps224;go_wp2_with fail
 refine(b1Q (bs cs) c.toNat (by omega) w).mono ?_;rintro e w1⟨rfl,hb1⟩;generalize Lib.idxFunc (fun x=>x==c.toNat) true (bs cs)=X at hx⊢
 cases b
 ·have hx2:¬0≤X:=by simpa using hx
  go_wp2_with fail
  go_ret;exact⟨rfl,hb1⟩
 ·have hx2:0≤X:=by simpa using hx
  go_wp2_with fail
  go_ret;exact⟨rfl,hb1⟩
def RowB (w:World)(r:Nat)(cs:By):Prop:=∃cur N,w.heap[r]?=some (.cells cur 5 (N,N+1))∧cs.length≤N∧cur.size=N∧∀(j:Nat) c,cs[j]?=some c→cur[j]?=some (.int .u8 (c.toNat:Int))
theorem RowB.lt {w:World}{r:Nat}{cs:By}(h:RowB w r cs):r<w.heap.size:=by
 obtain⟨cur,N,h,_⟩:=h;exact(xgl h)
theorem RowB.cell {w:World}{r:Nat}{cs:By}(h:RowB w r cs){j:Nat}{c:UInt8}(hj:cs[j]?=some c):w.cell? ⟨r,j,none⟩=some (.int .u8 (c.toNat:Int))∧w.frozen? ⟨r,j,none⟩=false:=by
 obtain⟨cur,N,h1,h2,h3,h4⟩:=h;have:=(List.getElem?_eq_some_iff.1 hj).1
 constructor
 ·simp[World.cell?,h1,h4 j c hj]
 ·simp[World.frozen?,h1];omega
theorem RowB.set {w:World}{r:Nat}{cs:By}(h:RowB w r cs)(j:Nat)(c:UInt8):RowB (w.setCell ⟨r,j,none⟩ (.int .u8 (c.toNat:Int))) r (cs.set j c):=by
 obtain⟨cur,N,h1,h2,h3,h4⟩:=h;refine⟨cur.setIfInBounds j (.int .u8 (c.toNat:Int)),N,by simp[World.setCell,Array.getElem?_modify,h1],by simpa using h2,by simpa using h3,?_⟩;intro i d hi;rw[List.getElem?_set]at hi;rw[Array.getElem?_setIfInBounds]
 split at hi
 ·rename_i e
  subst e;simp at hi;rw[if_pos rfl,if_pos (by omega),hi.2]
 ·rename_i e
  rw[if_neg e];exact h4 i d hi
theorem RowB.fresh (w:World)(l:By):RowB (Lib.bytesWorld w 5 (bs l)) w.heap.size l:=by
 refine⟨_,_,Lib.bytesWorld_at_new w 5 (bs l),?_,rfl,?_⟩
 ·simp[Lib.bytesCells,bs]
 ·intro j c hj
  have hlt:=(List.getElem?_eq_some_iff.1 hj).1;rw[Lib.bytesCells,Array.getElem?_append,if_pos (by simpa[bs] using hlt)];simp[bs,hj]
theorem RowB.str {w:World}{r:Nat}{cs:By}(h:RowB w r cs)(cap:Nat):(convert 84 9 (.slice (some ⟨r,0,none⟩) cs.length cap)).run Tryz.prog w=.ok (.string (bs cs)) w:=by
 rw[run_convert_bytes_string w 84 9 5 (some ⟨r,0,Option.none⟩) cs.length cap Tryz.underlying84 Tryz.underlying5 Tryz.underlying9];rw[run_bytesToString w ⟨r,0,Option.none⟩ cs.length cap (cs.map fun c=>(c.toNat:Int))]
 ·rw[a6p];rfl
 ·have:=run_loadCells_list (P:=Tryz.prog) w ⟨r,0,Option.none⟩ (cs.map fun c=>Value.int .u8 (c.toNat:Int)) (by
   intro j u hj;rw[List.getElem?_map]at hj;obtain⟨c,hc,rfl⟩:=Option.map_eq_some_iff.1 hj;have:=(h.cell hc).1;have ha:(⟨r,0,Option.none⟩:Addr).add j=⟨r,j,Option.none⟩:=by unfold Addr.add;split<;>simp_all
   rw[ha];exact this)
  simpa[Function.comp_def] using this
theorem b2Y (pre rest:By)(c d:UInt8):(pre++c::rest).set pre.length d=(pre++[d])++rest:=by simp
theorem b6c {c:UInt8}(h:¬97≤(c.toNat:Int)∨¬(c.toNat:Int)≤122):upB c=c:=by
 unfold upB;rw[if_neg (by omega)]
theorem b9W {c:UInt8}(h1:97≤(c.toNat:Int))(h2:(c.toNat:Int)≤122):((upB c).toNat:Int)=(c.toNat:Int)-97+65:=by
 rw[a3w,if_pos ⟨h1,h2⟩];omega
theorem b5A {n:Int}(h0:0≤n)(h1:n≤255):IntKind.u8.wrap n=n:=by
 simp[IntKind.wrap,IntKind.bits,IntKind.signed];omega
def loB (c:UInt8):UInt8:=if 65≤(c.toNat:Int)∧(c.toNat:Int)≤90 then UInt8.ofNat (c.toNat+32) else c
theorem b1W {c:UInt8}(h:¬65≤(c.toNat:Int)∨¬(c.toNat:Int)≤90):loB c=c:=by
 unfold loB;rw[if_neg (by omega)]
theorem b8S {c:UInt8}(h1:65≤(c.toNat:Int))(h2:(c.toNat:Int)≤90):((loB c).toNat:Int)=(c.toNat:Int)-65+97:=by
 unfold loB;rw[if_pos ⟨h1,h2⟩,UInt8.toNat_ofNat'];omega
theorem b3v (l:By)(hl:l.length≤1000000000)(w:World):Calls Tryz.prog 223 #[.string (bs l)] w fun e w'=>e=.returned (.string (bs (l.map upB)))∧Below w.heap.size w w':=by
 have hcv:=Lib.run_convert_string_bytes w 9 84 5 (bs l) Tryz.underlying9 Tryz.underlying84 Tryz.underlying5;have hrow:=RowB.fresh w l;have hbw:=Lib.bytesWorld_below w 5 (bs l);have hBr:w.heap.size≤w.heap.size:=Nat.le_refl _;obtain⟨r,hr⟩:∃r,r=w.heap.size:=⟨_,rfl⟩;generalize Lib.bytesWorld w 5 (bs l)=W at hcv hrow hbw;generalize grownCap w (bs l).size 0 5=cap at hcv;rw[a0f]at hcv;rw[←hr]at hcv hrow;have Hr:=xhd hr;clear hr hBr;go_enter Tryz.func223,Tryz.ntmps223;go_wp2_with fail
 go_loopg [10] l.length (fun g t10 wr=>∃(pre rest:By),g=rest.length∧l=pre++rest∧t10=.int .i64 pre.length∧RowB wr r (pre.map upB++rest)∧Below w.heap.size w wr)
 case atStart=>exact⟨[],l,rfl,rfl,rfl,hrow,hbw⟩
 case round =>
  obtain⟨pre,rest,hg,hp,rfl,hr,hb⟩:=hrel;have hpl:pre.length+rest.length=l.length:=by rw[hp];simp
  clear hcv hrow hbw
  cases rest with
  | nil =>
   have hst:=hr.str cap;rw[List.append_nil,List.length_map]at hst;rw[List.append_nil]at hp;rw[←hp]at hst;have hlt:¬(pre.length:Int)<l.length:=by rw[hp];omega
   clear hp hpl hr hg;go_wp2_with fail
   go_ret;exact⟨rfl,hb⟩
  | cons c rest =>
   have hlt:pre.length<l.length:=by simp at hpl;omega
   have hget:(pre.map upB++c::rest)[pre.length]?=some c:=by simp
   obtain⟨hc,hf⟩:=hr.cell hget;have hrl:=hr.lt;obtain⟨HR,Hp,Hg⟩:=xh3 hr hp hg;have hrange:=a1N c;clear hr hp hg hget hpl
   by_cases h1:97≤(c.toNat:Int)
   ·by_cases h2:(c.toNat:Int)≤122
    ·have e1:IntKind.u8.wrap ((c.toNat:Int)-97)=(c.toNat:Int)-97:=b5A (by omega) (by omega)
     have e2:IntKind.u8.wrap ((c.toNat:Int)-97+65)=(c.toNat:Int)-97+65:=b5A (by omega) (by omega);go_wp2_with fail
     go_roundg rest.length
     case measure=>rw[Hg.out];simp
     case rel =>
      refine⟨pre++[c],rest,rfl,by rw[Hp.out];simp,by simp,?_,hb.setCell (p:=⟨r,_,none⟩) (by rw[Hr.out];exact Nat.le_refl _) _⟩;have:=HR.out.set pre.length (upB c);rw[b9W h1 h2]at this
      have e3:(pre.map upB++c::rest).set pre.length (upB c)=(pre++[c]).map upB++rest:=by
       have:=b2Y (pre.map upB) rest c (upB c);rw[List.length_map]at this;rw[this];simp
      rwa [e3]at this
    ·go_wp2_with fail
     go_roundg rest.length
     case measure=>rw[Hg.out];simp
     case rel=>exact⟨pre++[c],rest,rfl,by rw[Hp.out];simp,by simp,by have:=HR.out;simpa[b6c (c:=c) (.inr (by omega))] using this,hb⟩
   ·go_wp2_with fail
    go_roundg rest.length
    case measure=>rw[Hg.out];simp
    case rel=>exact⟨pre++[c],rest,rfl,by rw[Hp.out];simp,by simp,by have:=HR.out;simpa[b6c (c:=c) (.inl (by omega))] using this,hb⟩
theorem a2v (l:By)(hl:l.length≤1000000000)(w:World):Calls Tryz.prog 136 #[.string (bs l)] w fun e w'=>e=.returned (.string (bs (l.map loB)))∧Below w.heap.size w w':=by
 have hcv:=Lib.run_convert_string_bytes w 9 84 5 (bs l) Tryz.underlying9 Tryz.underlying84 Tryz.underlying5;have hrow:=RowB.fresh w l;have hbw:=Lib.bytesWorld_below w 5 (bs l);have hBr:w.heap.size≤w.heap.size:=Nat.le_refl _;obtain⟨r,hr⟩:∃r,r=w.heap.size:=⟨_,rfl⟩;generalize Lib.bytesWorld w 5 (bs l)=W at hcv hrow hbw;generalize grownCap w (bs l).size 0 5=cap at hcv;rw[a0f]at hcv;rw[←hr]at hcv hrow;have Hr:=xhd hr;clear hr hBr;go_enter Tryz.func136,Tryz.ntmps136;go_wp2_with fail
 go_loopg [10] l.length (fun g t10 wr=>∃(pre rest:By),g=rest.length∧l=pre++rest∧t10=.int .i64 pre.length∧RowB wr r (pre.map loB++rest)∧Below w.heap.size w wr)
 case atStart=>exact⟨[],l,rfl,rfl,rfl,hrow,hbw⟩
 case round =>
  obtain⟨pre,rest,hg,hp,rfl,hr,hb⟩:=hrel;have hpl:pre.length+rest.length=l.length:=by rw[hp];simp
  clear hcv hrow hbw
  cases rest with
  | nil =>
   have hst:=hr.str cap;rw[List.append_nil,List.length_map]at hst;rw[List.append_nil]at hp;rw[←hp]at hst;have hlt:¬(pre.length:Int)<l.length:=by rw[hp];omega
   clear hp hpl hr hg;go_wp2_with fail
   go_ret;exact⟨rfl,hb⟩
  | cons c rest =>
   have hlt:pre.length<l.length:=by simp at hpl;omega
   have hget:(pre.map loB++c::rest)[pre.length]?=some c:=by simp
   obtain⟨hc,hf⟩:=hr.cell hget;have hrl:=hr.lt;obtain⟨HR,Hp,Hg⟩:=xh3 hr hp hg;have hrange:=a1N c;clear hr hp hg hget hpl
   by_cases h1:65≤(c.toNat:Int)
   ·by_cases h2:(c.toNat:Int)≤90
    ·have e1:IntKind.u8.wrap ((c.toNat:Int)-65)=(c.toNat:Int)-65:=b5A (by omega) (by omega)
     have e2:IntKind.u8.wrap ((c.toNat:Int)-65+97)=(c.toNat:Int)-65+97:=b5A (by omega) (by omega);go_wp2_with fail
     go_roundg rest.length
     case measure=>rw[Hg.out];simp
     case rel =>
      refine⟨pre++[c],rest,rfl,by rw[Hp.out];simp,by simp,?_,hb.setCell (p:=⟨r,_,none⟩) (by rw[Hr.out];exact Nat.le_refl _) _⟩;have:=HR.out.set pre.length (loB c);rw[b8S h1 h2]at this
      have e3:(pre.map loB++c::rest).set pre.length (loB c)=(pre++[c]).map loB++rest:=by
       have:=b2Y (pre.map loB) rest c (loB c);rw[List.length_map]at this;rw[this];simp
      rwa [e3]at this
    ·go_wp2_with fail
     go_roundg rest.length
     case measure=>rw[Hg.out];simp
     case rel=>exact⟨pre++[c],rest,rfl,by rw[Hp.out];simp,by simp,by have:=HR.out;simpa[b1W (c:=c) (.inr (by omega))] using this,hb⟩
   ·go_wp2_with fail
    go_roundg rest.length
    case measure=>rw[Hg.out];simp
    case rel=>exact⟨pre++[c],rest,rfl,by rw[Hp.out];simp,by simp,by have:=HR.out;simpa[b1W (c:=c) (.inl (by omega))] using this,hb⟩
theorem a1F.below {w w':World}{b B:Nat}{l:By}(h:a1F w b B l)(hb:Below w.heap.size w w'):a1F w' b B l:=h.keep (a0o hb) (fun k hk=>by cases hk)
theorem a1F.iter {w:World}{b B:Nat}{l:By}(h:a1F w b B l){k:Nat}{s:ByteArray}{pos pos':Nat}(hk:w.heap[k]?=some (.stringIter s pos)):a1F (w.iterAt k s pos') b B l:=by
 obtain⟨h1,h2,p,v,h3,h4,h5⟩:=h;have hbk:b≠k:=by intro e;subst e;rw[h4]at hk;simp at hk
 refine⟨h1,by rw[Lib.iterAt_size];exact h2,p,v,h3,(Lib.iterAt_other w k b s pos' hbk).trans h4,?_⟩;obtain⟨q1,q2⟩:=h5;refine⟨q1,?_⟩;rcases q2 with q2|⟨g,cap,cur,hv,hb,hg,rest⟩
 ·exact .inl q2
 ·have hgk:g≠k:=by intro e;subst e;rw[hg]at hk;simp at hk
  exact .inr ⟨g,cap,cur,hv,hb,(Lib.iterAt_other w k g s pos' hgk).trans hg,rest⟩
theorem c1H {c:UInt8}(h:a3g c):decide (upB c∈([32,9,10,12,13]:By))=a0h (c.toNat:Int):=by
 have hv:=a3w c;have hr:=a1N c
 have key:upB c∈([32,9,10,12,13]:By)↔((upB c).toNat:Int)=32∨((upB c).toNat:Int)=9∨((upB c).toNat:Int)=10∨((upB c).toNat:Int)=12∨((upB c).toNat:Int)=13:=by
  simp only[List.mem_cons,List.not_mem_nil,or_false,←UInt8.toNat_inj];have e1:(32:UInt8).toNat=32:=rfl;have e2:(9:UInt8).toNat=9:=rfl;have e3:(10:UInt8).toNat=10:=rfl;have e4:(12:UInt8).toNat=12:=rfl;have e5:(13:UInt8).toNat=13:=rfl;rw[e1,e2,e3,e4,e5];omega
 rcases h with⟨h1,h2⟩|⟨h1,h2⟩
 ·rw[h1]
  have:=a2C h1;rw[decide_eq_true_eq,key]
  split at hv<;>omega
 ·rw[h1]
  have h3:=(a7K c h2).2.2.2;rw[decide_eq_false_iff_not,key];omega
def a7J:By:=[65,66,67,68,69,70,49,50,51,52,53,54,55,56,57,48]
theorem b1K {d:UInt8}(h:48≤(d.toNat:Int)∧(d.toNat:Int)≤57∨65≤(d.toNat:Int)∧(d.toNat:Int)≤70):d∈a7J:=by
 have:d.toNat=48∨d.toNat=49∨d.toNat=50∨d.toNat=51∨d.toNat=52∨d.toNat=53∨d.toNat=54∨d.toNat=55∨d.toNat=56∨d.toNat=57∨d.toNat=65∨d.toNat=66∨d.toNat=67∨d.toNat=68∨d.toNat=69∨d.toNat=70:=by omega
 simp only[a7J,List.mem_cons,List.not_mem_nil,or_false,←UInt8.toNat_inj];rcases this with e|e|e|e|e|e|e|e|e|e|e|e|e|e|e|e<;>rw[e]<;>decide
def b8l (h:By)(w w':World)(e:Ending):Prop:=(∃pb,e=.returned (.tuple #[.pointer (some ⟨pb,0,none⟩),.bool true])∧a0v w' pb (hexS h 0 [])∧w.heap.size≤pb)∧Below w.heap.size w w'
theorem b0t (h:By)(hok:∀c∈h,a3g c)(hl:h.length≤100000000)(w:World):Calls Tryz.prog 193 #[.string (bs h)] w fun e w'=>b8l h w w' e:=by
 have HOK:=xhd hok;clear hok;have hsz:=a0f h
 cases h with
 | nil =>
  go_enter Tryz.func193,Tryz.ntmps193;go_wp2_with fail
  go_ret2;exact⟨⟨w.heap.size,rfl,heap_alloc_new w _,Nat.le_refl _⟩,(Below.refl _ _).alloc (Nat.le_refl _) _⟩
 | cons c0 h0 =>
  obtain⟨h,hh⟩:∃h,h=c0::h0:=⟨_,rfl⟩;have hpos:0<h.length:=by rw[hh];simp
  rw[←hh]at HOK hl hsz⊢;clear hh;obtain⟨z,hz⟩:∃z,z=bs h:=⟨_,rfl⟩;have hne:((z.size:Int)==0)=false:=by rw[hz,hsz];simp only[beq_eq_false_iff_ne];omega
  rw[←hz];have Hz:=xhd hz;have HB0:=xhd (heap_alloc_new w (.cells #[.pointer none,.slice none 0 0] 296 (0,0)));clear hz hsz;go_enter Tryz.func193,Tryz.ntmps193;go_wp2_with fail
  rw[Hz.out];refine(b3v h (by omega) _).mono ?_;rintro e w2⟨rfl,hb2⟩;have hB2:=(hb2.block w.heap.size (by simp)).trans HB0.out;have hb02:Below w.heap.size w w2:=((Below.refl w.heap.size w).alloc (Nat.le_refl _) (.cells #[.pointer none,.slice none 0 0] 296 (0,0))).trans (hb2.mono (by simp));have hs2:w.heap.size+1≤w2.heap.size:=by have:=hb2.size;simpa using this
  obtain⟨u,hu⟩:∃u,u=bs (h.map upB):=⟨_,rfl⟩;rw[←hu];have Hu:=xhd hu;have hus:u.size=h.length:=by rw[hu,a0f];simp
  clear hu hb2 HB0;obtain⟨HB2,Hb02⟩:=xh2 hB2 hb02;clear hB2 hb02;go_wp2_with fail
  go_loopg [6] h.length (fun g t6 wr=>∃(pre rest out:By) (i:Nat),g=rest.length∧h=pre++rest∧t6=.int .i64 i∧i≤pre.length∧out.length≤2*pre.length∧hexS rest i out=hexS h 0 []∧wr.heap[w2.heap.size]?=some (.stringIter u pre.length)∧a1F wr w.heap.size (w2.heap.size+1) out∧Below w.heap.size w wr)
  case atStart =>
   refine⟨[],h,[],0,rfl,rfl,rfl,Nat.le_refl _,Nat.le_refl _,rfl,World.iter_heap w2 u 0,⟨by omega,by simp[World.iter],.pointer none,.slice none 0 0,.inl rfl,?_,OwnB.nil _ _⟩,Hb02.out.alloc (by omega) _⟩;exact(Below.heap_alloc w2 _ _ (by omega)).trans HB2.out
  case round =>
   obtain⟨pre,rest,out,i,hg,hp,rfl,hi,hol,hx,hit,hB,hbw⟩:=hrel
   cases rest with
   | nil =>
    have hn2:∀ty,(Instr.next (.pointer (some ⟨w2.heap.size,0,none⟩)) true ty).run Tryz.prog wr=_:=fun ty=>Lib.run_next_end_at wr w2.heap.size u pre.length ty hit (by rw[hus,hp];simp);have hpl:pre.length=h.length:=by rw[hp];simp
    obtain⟨HX,HB,Hbw⟩:=xh3 hx hB hbw;have hi2:i<1000000000:=by omega
    have hol2:out.length≤200000000:=by omega
    clear hp hx hB hg hus hi hol hpl hbw hit
    by_cases hodd:i%2>0
    ·have hr1:0<(i:Int).tmod 2:=by rw[Int.tmod_eq_emod_of_nonneg (Int.natCast_nonneg i)];omega
     go_wp2_with fail
     refine(a4x wr w.heap.size _ out [48] HB.out (by simp;omega)).mono ?_;rintro e w3⟨⟨k,rfl⟩,hB3,hK3⟩;go_wp2_with fail
     refine(a5r w3 w.heap.size _ _ hB3).mono ?_;rintro e w4⟨rfl,hb4⟩;have hbb:=(Hbw.out.trans hK3.1).trans hb4;go_wp2_with fail
     go_ret2;refine⟨⟨w4.heap.size,rfl,?_,hbb.size⟩,hbb.alloc hbb.size _⟩;have:=HX.out;simp only[hexS,if_pos hodd]at this;rw[←this];exact heap_alloc_new w4 _
    ·have hr1:¬0<(i:Int).tmod 2:=by rw[Int.tmod_eq_emod_of_nonneg (Int.natCast_nonneg i)];omega
     go_wp2_with fail
     refine(a5r wr w.heap.size _ _ HB.out).mono ?_;rintro e w4⟨rfl,hb4⟩;have hbb:=Hbw.out.trans hb4;go_wp2_with fail
     go_ret2;refine⟨⟨w4.heap.size,rfl,?_,hbb.size⟩,hbb.alloc hbb.size _⟩;have:=HX.out;simp only[hexS,if_neg hodd]at this;rw[←this];exact heap_alloc_new w4 _
   | cons c rest =>
    have hokc:=HOK.out c (by rw[hp];simp);have hws:=c1H hokc;have hlt2:pre.length<u.size:=by rw[hus,hp];simp
    have hn2:∀ty,(Instr.next (.pointer (some ⟨w2.heap.size,0,none⟩)) true ty).run Tryz.prog wr=_:=fun ty=>Lib.run_next_any_at wr w2.heap.size u pre.length ty hit hlt2
    have hup:((upB c).toNat:Int)<128:=by
     have:=(a5D hokc).2;have hv:=a3w c
     split at hv<;>omega
    have hdec:Utf8.decode u pre.length=((upB c).toNat,1):=by
     have:=a1G (pre.map upB) (upB c) (rest.map upB) hup;rw[List.length_map]at this;rw[Hu.out,hp];simpa using this
    rw[hdec]at hn2;simp only at hn2;have hB3:=hB.iter hit (pos':=pre.length+1);have hit3:=Lib.iterAt_heap wr w2.heap.size u pre.length (pre.length+1) hit;have hbw3:=Lib.below_iterAt hbw (k:=w2.heap.size) (by omega) u (pre.length+1);obtain⟨W,hW⟩:∃W,wr.iterAt w2.heap.size u (pre.length+1)=W:=⟨_,rfl⟩;rw[hW]at hn2 hB3 hit3 hbw3;have hx2:hexS h 0 []=hexS (c::rest) i out:=hx.symm;have hpl:pre.length<h.length:=by rw[hp];simp
    have hi2:i<1000000000:=by omega
    have hol2:out.length≤200000000:=by omega
    have hltW:w2.heap.size<W.heap.size:=(xgl hit3);obtain⟨d,hd⟩:∃d,d=upB c:=⟨_,rfl⟩;rw[←hd]at hn2 hup hws;obtain⟨Hd,HX,HB3,Hit3,Hbw3,Hp,Hg,Hi⟩:=xh8 hd hx2 hB3 hit3 hbw3 hp hg hi;have Hol:=xhd hol;clear hd hx hx2 hB3 hit3 hbw3 hp hg hi hol hdec hB hit hbw hpl hW hus;have hcs1:(⟨#[32,9,10,12,13]⟩:ByteArray)=bs [32,9,10,12,13]:=rfl;obtain⟨y,hy⟩:∃y,y=bs a7J:=⟨_,rfl⟩;have hcs2:(⟨#[65,66,67,68,69,70,49,50,51,52,53,54,55,56,57,48]⟩:ByteArray)=y:=by rw[hy];rfl
    have Hy:=xhd hy;clear hy;go_wp2_with fail
    refine(b6L [32,9,10,12,13] (by decide) d hup _ hws W).mono ?_;rintro e w4⟨rfl,hb4⟩;have HB4:=xhd (HB3.out.below hb4);have Hit4:=xhd ((hb4.block w2.heap.size hltW).trans Hit3.out);have Hbw4:=xhd (Hbw3.out.trans (hb4.mono Hbw3.out.size));have hltW4:w2.heap.size<w4.heap.size:=by have:=hb4.size;omega
    clear hb4 HB3 Hit3 Hbw3;rcases xbt (a0h (c.toNat:Int)) with hw|hw
    ·rw[hw]
     by_cases hodd:i%2>0
     ·have hr1:0<(i:Int).tmod 2:=by rw[Int.tmod_eq_emod_of_nonneg (Int.natCast_nonneg i)];omega
      go_wp2_with fail
      refine(a4x w4 w.heap.size _ out [48] HB4.out (by simp;omega)).mono ?_;rintro e w5⟨⟨k,rfl⟩,hB5,hK5⟩;go_wp2_with fail
      go_roundg rest.length
      case measure=>rw[Hg.out];simp
      case rel =>
       have:=HX.out;simp only[hexS,hw,if_true,if_pos hodd]at this;exact⟨pre++[c],rest,out++[48],0,rfl,by rw[Hp.out];simp,rfl,Nat.zero_le _,by have:=Hol.out;simp;omega,this.symm,by rw[hK5.2.2.1 w2.heap.size (by omega) (by omega)];simpa using Hit4.out,hB5,Hbw4.out.trans hK5.1⟩
     ·have hr1:¬0<(i:Int).tmod 2:=by rw[Int.tmod_eq_emod_of_nonneg (Int.natCast_nonneg i)];omega
      go_wp2_with fail
      go_roundg rest.length
      case measure=>rw[Hg.out];simp
      case rel =>
       have:=HX.out;simp only[hexS,hw,if_true,if_neg hodd]at this;exact⟨pre++[c],rest,out,i,rfl,by rw[Hp.out];simp,rfl,by have:=Hi.out;simp;omega,by have:=Hol.out;simp;omega,this.symm,by simpa using Hit4.out,HB4.out,Hbw4.out⟩
    ·rw[hw]
     have hhex:0≤a0w (c.toNat:Int):=by
      rcases hokc with⟨h1,_⟩|⟨_,h1⟩
      ·rw[hw]at h1;exact absurd h1 (by decide)
      ·exact h1
     have hmem:d∈a7J:=by rw[Hd.out];exact b1K (a7K c hhex).2.2.2
     obtain⟨Hmem,Hhex⟩:=xh2 hmem hhex;clear hmem hhex hokc;have hcl:∀x∈a7J,(x.toNat:Int)<128:=by decide
     have Hcl:=xhd hcl;clear hcl;go_wp2_with fail
     go_loopg [6,9] a7J.length (fun g2 t6 t9 wi=>t6=.int .i64 i∧t9=.bool false∧∃pre2 rest2:By,a7J=pre2++rest2∧rest2.length≤g2∧d∈rest2∧wi.heap[w4.heap.size]?=some (.stringIter y pre2.length)∧wi.heap[w2.heap.size]?=some (.stringIter u (pre.length+1))∧a1F wi w.heap.size (w2.heap.size+1) out∧Below w.heap.size w wi)
     case atStart=>exact⟨rfl,rfl,[],a7J,rfl,Nat.le_refl _,Hmem.out,World.iter_heap w4 _ 0,(Below.heap_alloc _ _ _ hltW4).trans Hit4.out,HB4.out.keep (a0a (xgr _ none) _) (fun k hk=>by cases hk),Hbw4.out.alloc Hbw4.out.size _⟩
     case round =>
      obtain⟨rfl,rfl,pre2,rest2,hsp,hgl,hm2,hi2',hi1,hBi,hbi⟩:=hrel
      cases rest2 with
      | nil=>simp at hm2
      | cons x rest2 =>
       have hx1:(x.toNat:Int)<128:=Hcl.out x (by rw[hsp];simp);have hlt3:pre2.length<y.size:=by rw[Hy.out,a0f,hsp];simp
       have hn3:∀ty,(Instr.next (.pointer (some ⟨w4.heap.size,0,none⟩)) true ty).run Tryz.prog wr=_:=fun ty=>Lib.run_next_any_at wr w4.heap.size y pre2.length ty hi2' hlt3;have hdec:Utf8.decode y pre2.length=(x.toNat,1):=by rw[Hy.out,hsp];exact a1G pre2 x rest2 hx1
       rw[hdec]at hn3;simp only at hn3;have hi3:=Lib.iterAt_heap wr w4.heap.size y pre2.length (pre2.length+1) hi2';have hi4:=Lib.iterAt_other wr w4.heap.size w2.heap.size y (pre2.length+1) (by omega);have hbi3:=Lib.below_iterAt hbi (k:=w4.heap.size) Hbw4.out.size y (pre2.length+1);have hBi3:=hBi.iter hi2' (pos':=pre2.length+1);rw[hi1]at hi4;obtain⟨W3,hW3⟩:∃W3,wr.iterAt w4.heap.size y (pre2.length+1)=W3:=⟨_,rfl⟩;rw[hW3]at hn3 hi3 hi4 hbi3 hBi3;obtain⟨Hsp,Hm2,HBi3,Hi4,Hi3,Hbi3⟩:=xh6 hsp hm2 hBi3 hi4 hi3 hbi3;clear hsp hm2 hdec hi2' hi1 hBi hbi hBi3 hi4 hi3 hbi3 hn2 hW3
       by_cases he:d=x
       ·have he2:((d.toNat:Int)==(x.toNat:Int))=true:=by rw[he];simp
        clear he;go_wp2_with fail
        refine(b3C W3 w.heap.size _ out d hup HBi3.out (by omega)).mono ?_;rintro e w5⟨⟨k,rfl⟩,hB5,hK5⟩;go_wp2_with fail
        go_roundg rest.length
        case measure=>rw[Hg.out];simp
        case rel =>
         have:=HX.out;simp only[hexS,hw,Bool.false_eq_true,if_false,←Hd.out]at this;exact⟨pre++[c],rest,out++[d],i+1,rfl,by rw[Hp.out];simp,by simp,by have:=Hi.out;simp;omega,by have:=Hol.out;simp;omega,this.symm,by rw[hK5.2.2.1 w2.heap.size (by omega) (by omega)];simpa using Hi4.out,hB5,Hbi3.out.trans hK5.1⟩
       ·have he2:((d.toNat:Int)==(x.toNat:Int))=false:=by
         simp only[beq_eq_false_iff_ne];intro e;exact he (UInt8.toNat_inj.1 (by omega))
        go_wp2_with fail
        go_roundg rest2.length
        case measure=>simp at hgl;omega
        case rel=>exact⟨rfl,rfl,pre2++[x],rest2,by rw[Hsp.out];simp,Nat.le_refl _,by have:=Hm2.out;simp[he]at this;exact this,by simpa using Hi3.out,Hi4.out,HBi3.out,Hbi3.out⟩
theorem a7F:∀(l:By) (c:UInt8),encN (l++[c])=encN l++(if a3p (c.toNat:Int) then [35,a1X (c.toNat/16),a1X (c.toNat%16)] else [c])
 | [],c=>by simp only[List.nil_append,encN]
 | d::l,c=>by
  simp only[List.cons_append,encN,a7F l c]
  by_cases h:a3p (d.toNat:Int)=true
  ·rw[if_pos h,if_pos h];simp
  ·rw[if_neg h,if_neg h];simp
theorem b8O (c:UInt8):Lib.Hx.encode [c]=[a1X (c.toNat/16),a1X (c.toNat%16)]:=by
 have key:∀n:Nat,n<16→Lib.Hx.digit n=a1X n:=by decide
 have:=c.toNat_lt;rw[Lib.Hx.encode_cons,key _ (by omega),key _ (by omega)];rfl
theorem a4d {w0 w w':World}(hg:w0.grownBy w none)(h:Below w0.heap.size w w'):w0.grownBy w' none :=
 ⟨h.os.trans hg.os,h.tape.trans hg.tape,h.output.trans hg.output,Nat.le_trans hg.size h.size,fun k hk _=>(h.block k (by have:=hg.size;omega)).trans (hg.block k hk (by simp))⟩
def EnI (l:By)(i:Nat)(rep:Bool)(pre rest:By):Prop:=l=pre++rest∧i=pre.length∧(rep=false→encN pre=pre)
theorem a5B (l:By)(hl:l.length≤100000000)(w:World):Calls Tryz.prog 279 #[.string (bs l)] w fun e w'=>e=.returned (.string (bs (encN l)))∧w.grownBy w' none:=by
 obtain⟨z,hz⟩:∃z,z=bs l:=⟨_,rfl⟩;have hzs:z.size=l.length:=by rw[hz,a0f]
 rw[←hz];have Hz:=xhd hz;clear hz;go_enter Tryz.func279,Tryz.ntmps279;go_wp2_with fail
 go_loopg [3,5] l.length (fun g t3 t5 wr=>∃(i:Nat) (rep:Bool) (pre rest:By),rest.length=g∧t3=.bool rep∧t5=.int .i64 i∧EnI l i rep pre rest∧a1F wr w.heap.size (w.heap.size+1) (if rep then encN pre else [])∧w.grownBy wr none)
 case atStart=>exact⟨0,false,[],l,rfl,rfl,rfl,⟨rfl,rfl,fun _=>rfl⟩,a1F.fresh w,a0a (xgr _ _) _⟩
 case round =>
  obtain⟨i,rep,pre,rest,hg,rfl,rfl,⟨hp,hi,hrep⟩,hB,hb⟩:=hrel;have hple:pre.length+rest.length=l.length:=by rw[hp];simp
  cases rest with
  | nil =>
   have hlt:¬(i:Int)<z.size:=by rw[hzs];simp at hple;omega
   have hpre:pre=l:=by rw[hp];simp
   obtain⟨Hb,HB⟩:=xh2 hb hB;clear hb hB hp hg
   cases rep
   ·have Hzk:=xhd (show z=bs (encN l) by rw[Hz.out,←hpre,hrep rfl])
    clear hrep hple hzs hi hpre;go_wp2_with fail
    go_ret;exact⟨by rw[Hzk.out];rfl,Hb.out⟩
   ·have Hpre:=xhd hpre
    clear hrep hple hzs hi hpre;go_wp2_with fail
    refine(a5r wr w.heap.size _ _ HB.out).mono ?_;rintro e w2⟨rfl,hb2⟩;have Hb2:=xhd hb2;clear hb2;go_wp2_with fail
    go_ret;exact⟨by simp[Hpre.out],a4d Hb.out Hb2.out⟩
  | cons c rest =>
   have hlt:i<z.size:=by rw[hzs];simp at hple;omega
   have hlt2:(i:Int)<z.size:=by omega
   obtain⟨hk0,hget0⟩:=a3k (l:=l) (pre:=pre) (c:=c) (post:=rest) hp;have hget:z[i]'hlt=c:=by simp only[Hz.out,hi];exact hget0
   have hex:z.extract 0 i=bs pre:=by rw[Hz.out,a1B,hp,hi];simp
   have hil:i<100000000:=by simp at hple;omega
   have hel:(encN pre).length≤300000000:=by
    have:∀q:By,(encN q).length≤3*q.length:=by
     intro q
     induction q with
     | nil=>simp[encN]
     | cons d q ih=>simp only[encN];split<;>simp<;>omega
    have:=this pre;omega
   have hsn:=a7F pre c;obtain⟨Hp,Hi,Hrep,Hg,Hb,HB,Hsn⟩:=xh7 hp hi hrep hg hb hB hsn;have Hle:=xhd (And.intro hel hil);clear hp hi hrep hg hb hB hsn hk0 hget0 hple hzs hel;rcases xbt (a3p (c.toNat:Int)) with hn|hn
   ·rw[if_pos hn]at Hsn
    have hstep:∀(wr:World),a1F wr w.heap.size (w.heap.size+1) (encN pre)→w.grownBy wr none→Calls Tryz.prog 215 #[.pointer (some ⟨w.heap.size,0,none⟩),.int .u8 35] wr fun e w'=>e=.returned .nilIface∧a1F w' w.heap.size (w.heap.size+1) (encN pre++[35])∧w.grownBy w' none:=fun wr hB hg=>by
     refine(a6i wr w.heap.size _ (encN pre) 35 hB (by have:=Hle.out.1;omega)).mono ?_;rintro e w2⟨rfl,hB2,hK2⟩;exact⟨rfl,hB2,a4d hg hK2.1⟩
    have Hstep:=xhd hstep
    have hstep2:∀(wr:World) (g cap:Nat),wr.cell? ⟨g,0,none⟩=some (.int .u8 (c.toNat:Int))→Calls Tryz.prog 281 #[.slice (some ⟨g,0,none⟩) 1 cap] wr fun e w'=>e=.returned (.string (bs [a1X (c.toNat/16),a1X (c.toNat%16)]))∧Below wr.heap.size wr w':=fun wr g cap hc=>by
     have h:=Tryz.hex_EncodeToString_bytes g 0 cap [c] wr (fun i hi=>by
      have:i=0:=by simp at hi;exact hi
      subst this
      simpa using hc) (World.block_lt_of_cell? _ _ hc) (by simp)
     rw[b8O]at h;exact h
    have Hstep2:=xhd hstep2
    have hstep3:∀(wr:World),a1F wr w.heap.size (w.heap.size+1) (encN pre++[35])→w.grownBy wr none→Calls Tryz.prog 217 #[.pointer (some ⟨w.heap.size,0,none⟩),.string (bs [a1X (c.toNat/16),a1X (c.toNat%16)])] wr fun e w'=>(∃k,e=.returned (.tuple #[k,.nilIface]))∧a1F w' w.heap.size (w.heap.size+1) (encN (pre++[c]))∧w.grownBy w' none:=fun wr hB hg=>by
     refine(a4x wr w.heap.size _ (encN pre++[35]) [a1X (c.toNat/16),a1X (c.toNat%16)] hB (by have:=Hle.out.1;simp;omega)).mono ?_;rintro e w2⟨he,hB2,hK2⟩;refine⟨he,?_,a4d hg hK2.1⟩;rw[Hsn.out];simpa using hB2
    have Hstep3:=xhd hstep3;obtain⟨zh,hzh⟩:∃z,z=bs [a1X (c.toNat/16),a1X (c.toNat%16)]:=⟨_,rfl⟩;rw[←hzh]at Hstep2 Hstep3;clear hstep hstep2 hstep3 hzh
    cases rep
    ·go_wp2_with fail
     refine(a5e _ _).mono ?_;rintro e w2⟨rfl,hw⟩;subst w2;rw[hn];go_wp2_with fail
     refine(a4x wr w.heap.size _ [] pre HB.out (by have:=Hle.out.2;have:=Hi.out;simp;omega)).mono ?_;rintro e w2⟨⟨k2,rfl⟩,hB2,hK2⟩;have HB2:=xhd (show a1F w2 w.heap.size (w.heap.size+1) (encN pre) by rw[Hrep.out (by trivial)];simpa using hB2);have Hb2:=xhd (a4d Hb.out hK2.1);clear hB2 hK2;go_wp2_with fail
     refine(Hstep.out _ HB2.out Hb2.out).mono ?_;rintro e w3⟨rfl,hB3,hg3⟩;obtain⟨HB3,Hg3⟩:=xh2 hB3 hg3;clear hB3 hg3;go_wp2_with fail
     refine(Hstep2.out _ w3.heap.size 1 (by rw[World.cell?_alloc_at _ _ _ _ (by simp)];rfl)).mono ?_;rintro e w4⟨rfl,hb4⟩;have hg34:w3.grownBy w4 none:=(a0a (xgr w3 none) _).trans (a0o hb4);have HB4:=xhd (HB3.out.keep hg34 (fun k hk=>by cases hk));have Hg4:=xhd (Hg3.out.trans hg34);clear hb4 hg34;go_wp2_with fail
     refine(Hstep3.out _ HB4.out Hg4.out).mono ?_;rintro e w5⟨⟨k5,rfl⟩,hB5,hg5⟩;obtain⟨HB5,Hg5⟩:=xh2 hB5 hg5;clear hB5 hg5;go_wp2_with fail
     go_roundg (gk-1)
     case measure=>have:=Hg.out;simp at this;omega
     case rel=>exact⟨i+1,true,pre++[c],rest,by have:=Hg.out;simp at this;omega,rfl,by simp,⟨by rw[Hp.out];simp,by rw[Hi.out];simp,fun h=>by cases h⟩,by simp only[if_true];exact HB5.out,Hg5.out⟩
    ·go_wp2_with fail
     refine(a5e _ _).mono ?_;rintro e w2⟨rfl,hw⟩;subst w2;rw[hn];have HB2:=xhd (show a1F wr w.heap.size (w.heap.size+1) (encN pre) from HB.out);have Hb2:=xhd Hb.out;go_wp2_with fail
     refine(Hstep.out _ HB2.out Hb2.out).mono ?_;rintro e w3⟨rfl,hB3,hg3⟩;obtain⟨HB3,Hg3⟩:=xh2 hB3 hg3;clear hB3 hg3;go_wp2_with fail
     refine(Hstep2.out _ w3.heap.size 1 (by rw[World.cell?_alloc_at _ _ _ _ (by simp)];rfl)).mono ?_;rintro e w4⟨rfl,hb4⟩;have hg34:w3.grownBy w4 none:=(a0a (xgr w3 none) _).trans (a0o hb4);have HB4:=xhd (HB3.out.keep hg34 (fun k hk=>by cases hk));have Hg4:=xhd (Hg3.out.trans hg34);clear hb4 hg34;go_wp2_with fail
     refine(Hstep3.out _ HB4.out Hg4.out).mono ?_;rintro e w5⟨⟨k5,rfl⟩,hB5,hg5⟩;obtain⟨HB5,Hg5⟩:=xh2 hB5 hg5;clear hB5 hg5;go_wp2_with fail
     go_roundg (gk-1)
     case measure=>have:=Hg.out;simp at this;omega
     case rel=>exact⟨i+1,true,pre++[c],rest,by have:=Hg.out;simp at this;omega,rfl,by simp,⟨by rw[Hp.out];simp,by rw[Hi.out];simp,fun h=>by cases h⟩,by simp only[if_true];exact HB5.out,Hg5.out⟩
   ·rw[if_neg (by rw[hn];decide)]at Hsn
    cases rep
    ·go_wp2_with fail
     refine(a5e _ _).mono ?_;rintro e w2⟨rfl,hw⟩;subst w2;rw[hn];go_wp2_with fail
     go_roundg (gk-1)
     case measure=>have:=Hg.out;simp at this;omega
     case rel=>exact⟨i+1,false,pre++[c],rest,by have:=Hg.out;simp at this;omega,rfl,by simp,⟨by rw[Hp.out];simp,by rw[Hi.out];simp,fun _=>by rw[Hsn.out,Hrep.out (by trivial)]⟩,HB.out,Hb.out⟩
    ·go_wp2_with fail
     refine(a5e _ _).mono ?_;rintro e w2⟨rfl,hw⟩;subst w2;rw[hn];go_wp2_with fail
     refine(a6i wr w.heap.size _ (encN pre) c HB.out (by have:=Hle.out.1;omega)).mono ?_;rintro e w2⟨rfl,hB2,hK2⟩;have HB2:=xhd hB2;have Hb2:=xhd (a4d Hb.out hK2.1);clear hB2 hK2;go_wp2_with fail
     go_roundg (gk-1)
     case measure=>have:=Hg.out;simp at this;omega
     case rel=>exact⟨i+1,true,pre++[c],rest,by have:=Hg.out;simp at this;omega,rfl,by simp,⟨by rw[Hp.out];simp,by rw[Hi.out];simp,fun h=>by cases h⟩,by simp only[if_true];rw[Hsn.out];exact HB2.out,Hb2.out⟩
end Go.Proofs.YtfkecmlmnhbmoaaGreatDoor
namespace Go.Proofs.YtfkecmlmnhbmoaaGreatDoor
theorem a7f {α:Type}(d:α):∀(ks:List By) (ps:List α),ks.Nodup→ks.length=ps.length→ks.map (look d ks ps)=ps
 | [],[],_,_=>rfl
 | [],_::_,_,h=>by simp at h
 | _::_,[],_,h=>by simp at h
 | k :: ks, p :: ps, hn, hl => by
  rw[List.nodup_cons]at hn;have ih:=a7f d ks ps hn.2 (by simpa using hl);rw[List.map_cons];congr 1
  ·simp[look]
  ·refine Eq.trans (List.map_congr_left fun q hq=>?_) ih
   have hne:k≠q:=fun e=>hn.1 (e▸hq);simp[look,hne]
theorem a8j {p:PO}(h:a1f p=.null):p=.null:=by cases p<;>simp[a1f]at h⊢
theorem a8i {keys:List By}{ps:List PO}(hn:keys.Nodup)(hl:keys.length=ps.length):((keys.mergeSort leBy).map (look .null keys ps)).Perm ps:=by
 have h:=(List.mergeSort_perm keys leBy).map (look PO.null keys ps)
 rwa [a7f .null keys ps hn hl]at h
mutual
theorem b0c (ff:Nat→By)(R:Nat→Prop):∀(p:PO) (n:Nat),SAll ff R n p→SAll ff R n (a1f p)∧wtP (a1f p)=wtP p
 | .arr kids,n,h=>by
  obtain⟨h1,h2,h3⟩:=h;simp only[okR]at h1;simp only[fxP]at h2;simp only[lvP]at h3;obtain⟨n,rfl⟩:∃m,n=m+1:=⟨n-1,by omega⟩;obtain⟨g1,g2,_⟩:=a6d ff R kids n (fun p hp=>⟨a4k.1 h1 p hp,a4c.1 h2 p hp,a2q.1 (show lvPs kids≤n by omega) p hp⟩);simp only[a1f];exact⟨SAll.arr g1,by simp only[wtP,g2]⟩
 | .dict keys kids,n,h=>by
  obtain⟨h1,h2,h3⟩:=h;simp only[okR]at h1;simp only[fxP]at h2;simp only[lvP]at h3;obtain⟨n,rfl⟩:∃m,n=m+1:=⟨n-1,by omega⟩;obtain⟨q1,q2,q3,q4⟩:=h1;obtain⟨g1,g2,g3,g4⟩:=a6d ff R kids n (fun p hp=>⟨a4k.1 q4 p hp,a4c.1 h2.2 p hp,a2q.1 (show lvPs kids≤n by omega) p hp⟩);have hp1:=a8i (ps:=a1o kids) q2 (by rw[g3];exact q1);have hp2:=List.mergeSort_perm keys leBy;simp only[a1f];refine⟨SAll.dict (by simp) (hp2.nodup_iff.2 q2) (fun k hk=>q3 k (hp2.mem_iff.1 hk)) (fun p hp=>g4 h2.1 p (hp1.mem_iff.1 hp)) (fun p hp=>g1 p (hp1.mem_iff.1 hp)),?_⟩;simp only[wtP];rw[a5q,(hp1.map wtP).sum_nat,(hp2.map fun k:By=>k.length+1).sum_nat,←a5q,g2]
 | .null,n,h=>⟨h,rfl⟩
 | .bool _,n,h=>⟨h,rfl⟩
 | .int _,n,h=>⟨h,rfl⟩
 | .real _,n,h=>⟨h,rfl⟩
 | .lit _,n,h=>⟨h,rfl⟩
 | .hexl _,n,h=>⟨h,rfl⟩
 | .name _,n,h=>⟨h,rfl⟩
 | .ref _ _,n,h=>⟨h,rfl⟩
theorem a6d (ff:Nat→By)(R:Nat→Prop):∀(ps:List PO) (n:Nat),(∀p∈ps,SAll ff R n p)→(∀q∈a1o ps,SAll ff R n q)∧wtPs (a1o ps)=wtPs ps∧(a1o ps).length=ps.length∧((∀p∈ps,p≠.null)→∀q∈a1o ps,q≠.null)
 | [],n,h=>by simp[a1o]
 | p :: ps, n, h => by
  obtain⟨g1,g2⟩:=b0c ff R p n (h p (by simp));obtain⟨g3,g4,g5,g6⟩:=a6d ff R ps n (fun q hq=>h q (by simp[hq]));simp only[a1o];refine⟨fun q hq=>?_,by simp only[wtPs,g2,g4],by simp[g5],fun hn q hq=>?_⟩
  ·rcases List.mem_cons.1 hq with rfl|hq
   ·exact g1
   ·exact g3 q hq
  ·rcases List.mem_cons.1 hq with rfl|hq
   ·exact fun e=>hn p (by simp) (a8j e)
   ·exact g6 (fun r hr=>hn r (by simp[hr])) q hq
end
mutual
theorem a8M {ff:Nat→By}{R:Nat→Prop}(f:Nat→Nat)(hf:∀x,R x→f x=x):∀p:PO,okR ff R p→mapR f p=p
 | .real x,h=>by simp only[okR]at h;simp only[mapR,hf x h.2]
 | .arr kids,h=>by simp only[okR]at h;simp only[mapR,a7e f hf kids h]
 | .dict keys kids,h=>by simp only[okR]at h;simp only[mapR,a7e f hf kids h.2.2.2]
 | .null,_=>rfl
 | .bool _,_=>rfl
 | .int _,_=>rfl
 | .lit _,_=>rfl
 | .hexl _,_=>rfl
 | .name _,_=>rfl
 | .ref _ _,_=>rfl
theorem a7e {ff:Nat→By}{R:Nat→Prop}(f:Nat→Nat)(hf:∀x,R x→f x=x):∀ps:List PO,okRs ff R ps→a4I f ps=ps
 | [],_=>rfl
 | p::ps,h=>by simp only[okRs]at h;simp only[a4I,a8M f hf p h.1,a7e f hf ps h.2]
end
theorem a7b {c:UInt8}{l:By}(hw:a0h (c.toNat:Int)=false)(h37:c≠37):lps (c::l)=c::l:=a1K (a0Q false hw h37)
theorem b5Q (l:By):lps (32::l)=lps l:=by unfold lps;rw[a2Z]
theorem a8H (b:Bool)(l:By):lps (spc b++l)=lps l:=by
 cases b with
 | true=>exact b5Q l
 | false=>rfl
theorem b9D {pf:By→Nat}{n:Nat}{r:By}{x:PV}{r':By}(h:rdV pf n (93::r) false=some (x,r',false)):False:=by
 cases n with
 | zero=>simp[rdV]at h
 | succ n =>
  obtain⟨_,c,l1,hp,_,_,hc⟩:=a2M h;rw[a0Q false (show a0h ((93:UInt8).toNat:Int)=false by decide) (by decide)]at hp;simp at hp;obtain⟨rfl,rfl⟩:=hp;rcases hc with⟨h,_⟩|⟨h,_⟩|⟨h,_⟩|⟨h,_⟩|⟨h,_⟩|⟨h,_⟩
  all_goals revert h;decide
theorem b9J {pf:By→Nat}{n:Nat}{s t:By}(ht:litF (40::(s++[41])) 0 []=some (t,[]))(r:By):rdV pf (n+1) (40::(s++41::r)) false=some (.str t,r,false):=by
 have h1:=a9F ht r;simp only[rdV,a0Q false (show a0h ((40:UInt8).toNat:Int)=false by decide) (by decide)];rw[if_pos (by decide),h1];rfl
theorem b7C {pf:By→Nat}{n:Nat}{s:By}(h:∀c∈s,0≤a0w (c.toNat:Int))(r:By):∃t,rdV pf (n+1) (60::(s++62::r)) false=some (.str t,r,false):=by
 have h1:=a9D h r
 have h2:is2 (60::(s++62::r)) 60=false:=by
  cases s with
  | nil=>rfl
  | cons c s =>
   have:=a3V (h c (by simp));simp[is2];omega
 refine⟨hexT s,?_⟩;simp only[rdV,a0Q false (show a0h ((60:UInt8).toNat:Int)=false by decide) (by decide),h2,h1];rw[if_neg (by decide),if_neg (by decide),if_pos (by decide),if_pos (by decide)]
theorem a2N {pf:By→Nat}{nn:Nat→Prop}{ff:Nat→By}{R:Nat→Prop}(hf:∀x,R x→pf (ff x)=x){p:PO}{n:Nat}{r:By}{po:PO}{r':By}(h:okR ff R p)(hn:lvP p≤n)(hr:Fol r)(hs:SpF pf nn n (prP ff p++r) po r') :
  ∃m,n=m+1∧Corr nn (m+1) po (valP p)∧Spl pf nn (m+1) (prP ff p++r) po r'∧lps r'=lps r:=by
 obtain⟨x,hv,hC,hS⟩:=hs;obtain⟨r2,h1,h2⟩:=b4R pf ff R p n r h hn hr;rw[a8M _ hf p h]at h1;rw[h1]at hv;injection hv with hv;injection hv with hv hv2;injection hv2 with hv2
 subst hv;subst hv2
 have hlr:lps r2=lps r:=by
  rcases h2 with rfl|rfl
  ·rfl
  ·exact b5Q r
 obtain⟨m,rfl⟩:∃m,n=m+1:=⟨n-1,by cases p<;>simp[lvP]at hn<;>omega⟩;exact⟨m,rfl,hC,hS,hlr⟩
mutual
theorem a9g {pf:By→Nat}{nn:Nat→Prop}{ff:Nat→By}{R:Nat→Prop}(hf:∀x,R x→pf (ff x)=x):∀(p:PO) (n:Nat) (r:By) (po:PO) (r':By),okR ff R p→fxP p→lvP p≤n→Fol r→SpF pf nn n (prP ff p++r) po r'→po=p∧lps r'=lps r
 | .null,n,r,po,r',h,hfx,hn,hr,hs=>by
  obtain⟨m,rfl,hC,hS,hl⟩:=a2N hf h hn hr hs;refine⟨?_,hl⟩
  cases po<;>simp only[valP,Corr]at hC
  rfl
 | .bool b,n,r,po,r',h,hfx,hn,hr,hs=>by
  obtain⟨m,rfl,hC,hS,hl⟩:=a2N hf h hn hr hs;refine⟨?_,hl⟩
  cases po<;>simp only[valP,Corr]at hC
  rename_i a
  cases a<;>cases b<;>first|rfl|(simp at hC)
 | .int k,n,r,po,r',h,hfx,hn,hr,hs=>by
  obtain⟨m,rfl,hC,hS,hl⟩:=a2N hf h hn hr hs;refine⟨?_,hl⟩
  cases po<;>simp only[valP,Corr]at hC
  rw[hC.1]
 | .real y,n,r,po,r',h,hfx,hn,hr,hs=>by
  obtain⟨m,rfl,hC,hS,hl⟩:=a2N hf h hn hr hs;refine⟨?_,hl⟩
  cases po<;>simp only[valP,Corr]at hC
  rw[hC.1]
 | .ref a b,n,r,po,r',h,hfx,hn,hr,hs=>by
  obtain⟨m,rfl,hC,hS,hl⟩:=a2N hf h hn hr hs;refine⟨?_,hl⟩
  cases po<;>simp only[valP,Corr]at hC
  rw[hC.1,hC.2.1]
 | .name s,n,r,po,r',h,hfx,hn,hr,hs=>by
  obtain⟨m,rfl,hC,hS,hl⟩:=a2N hf h hn hr hs;refine⟨?_,hl⟩
  cases po<;>simp only[valP,Corr]at hC
  rw[hC.1]
 | .lit s,n,r,po,r',h,hfx,hn,hr,hs=>by
  obtain⟨m,rfl,hC,hS,hl⟩:=a2N hf h hn hr hs;refine⟨?_,hl⟩;have e:prP ff (.lit s)++r=40::(s++41::r):=by simp[prP]
  simp only[okR]at h;obtain⟨t,ht⟩:=h;obtain⟨x,hv,h98,h99⟩:=hs;clear h98 h99;rw[e]at hv hS;rw[b9J ht r]at hv;injection hv with hv;injection hv with _ hv2;injection hv2 with hv2
  subst hv2
  cases po<;>simp only[valP,Corr]at hC
  ·rename_i s'
   have hS:40::(s++41::r)=40::(s'++41::r):=hS;injection hS with _ hS;rw[List.append_cancel_right hS]
  ·obtain⟨a,m',c,e2,_⟩:=hS
   simp at e2
 | .hexl s,n,r,po,r',h,hfx,hn,hr,hs=>by
  obtain⟨m,rfl,hC,hS,hl⟩:=a2N hf h hn hr hs;refine⟨?_,hl⟩;have e:prP ff (.hexl s)++r=60::(s++62::r):=by simp[prP]
  simp only[okR]at h;simp only[fxP]at hfx;obtain⟨x,hv,h98,h99⟩:=hs;clear h98 h99;rw[e]at hv hS;obtain⟨t,ht⟩:=b7C (pf:=pf) (n:=m) h r;rw[ht]at hv;injection hv with hv;injection hv with _ hv2;injection hv2 with hv2
  subst hv2
  cases po<;>simp only[valP,Corr]at hC
  ·rename_i s'
   have hS:60::(s++62::r)=40::(s'++41::r):=hS;simp at hS
  ·obtain⟨a,m',c,e2,ha,hc,hs'⟩:=hS
   injection e2 with _ e2;have e3:=List.append_cancel_right e2
   have ha0:a=[]:=by
    cases a with
    | nil=>rfl
    | cons d a =>
     have h1:=ha d (by simp);have h2:=hfx.2 d (by rw[e3];simp);rw[h1]at h2;cases h2
   have hc0:c=[]:=by
    cases c with
    | nil=>rfl
    | cons d c =>
     have h1:=hc d (by simp);have h2:=hfx.2 d (by rw[e3];simp);rw[h1]at h2;cases h2
   rw[ha0,hc0,List.nil_append,List.append_nil]at e3;rw[hs',←e3,hfx.1]
 | .arr ps,n,r,po,r',h,hfx,hn,hr,hs=>by
  obtain⟨m,rfl,hC,hS,hl⟩:=a2N hf h hn hr hs;refine⟨?_,hl⟩;have e:prP ff (.arr ps)++r=91::(prAs ff true ps++93::r):=by simp[prP]
  simp only[okR]at h;simp only[fxP]at hfx;simp only[lvP]at hn;rw[e]at hS
  cases po<;>simp only[valP,Corr]at hC
  obtain⟨l1,e2,hS⟩:=hS;injection e2 with _ e2;subst e2;rw[b5O hf ps m true r r' _ h hfx (by omega) hS]
 | .dict keys ps,n,r,po,r',h,hfx,hn,hr,hs=>by
  obtain⟨m,rfl,hC,hS,hl⟩:=a2N hf h hn hr hs;refine⟨?_,hl⟩;have e:prP ff (.dict keys ps)++r=60::60::(prDs ff keys ps++62::62::r):=by simp[prP]
  simp only[okR]at h;simp only[fxP]at hfx;simp only[lvP]at hn;rw[e]at hS
  cases po<;>simp only[valP,Corr]at hC
  obtain⟨l1,e2,es,hS,h1,h2⟩:=hS;injection e2 with _ e2;injection e2 with _ e2;subst e2;obtain⟨g1,g2⟩:=b5P hf ps m keys r r' es h.1 h.2.2.1 h.2.2.2 hfx.2 (by omega) hS
  have hfl:es.filter (fun e=>!e.2.nul)=es:=List.filter_eq_self.2 fun q hq=>by
   have hn:=hfx.1 q.2 (by rw[←g2];exact List.mem_map.2 ⟨q,hq,rfl⟩)
   cases hq2:q.2<;>first|rfl|exact absurd hq2 hn
  rw[hfl]at h1 h2;rw[h1,h2,g1,g2]
theorem b5O {pf:By→Nat}{nn:Nat→Prop}{ff:Nat→By}{R:Nat→Prop}(hf:∀x,R x→pf (ff x)=x):∀(ps:List PO) (n:Nat) (b:Bool) (r r':By) (qs:List PO),okRs ff R ps→fxPs ps→lvPs ps≤n→SpA (SpF pf nn n) qs (prAs ff b ps++93::r) (93::r')→qs=ps
 | [],n,b,r,r',[],h,hfx,hn,hs=>rfl
 | [],n,b,r,r',q::qs,h,hfx,hn,hs=>by
  obtain⟨l2,⟨x,hv,_⟩,_⟩:=hs;simp only[prAs,List.nil_append]at hv;rw[a7b (show a0h ((93:UInt8).toNat:Int)=false by decide) (by decide)]at hv;exact(b9D hv).elim
 | p::ps,n,b,r,r',[],h,hfx,hn,hs=>by
  have hs:lps _=lps _:=hs;simp only[okRs]at h;simp only[prAs,List.append_assoc]at hs;obtain⟨e1,e2⟩:=a5X ff R p h.1 (prAs ff false ps++93::r) false;rw[a8H,a1K e1,a7b (show a0h ((93:UInt8).toNat:Int)=false by decide) (by decide)]at hs;rw[hs]at e2;simp[a0p]at e2
 | p::ps,n,b,r,r',q::qs,h,hfx,hn,hs=>by
  obtain⟨l2,h1,h2⟩:=hs;simp only[okRs]at h;simp only[fxPs]at hfx;simp only[lvPs]at hn;simp only[prAs,List.append_assoc]at h1;obtain⟨e1,e2⟩:=a5X ff R p h.1 (prAs ff false ps++93::r) false;rw[a8H,a1K e1]at h1;obtain⟨g1,g2⟩:=a9g hf p n _ q l2 h.1 hfx.1 (by omega) (b5I ff R ps h.2 r) h1;rw[g1,b5O hf ps n false r r' qs h.2 hfx.2 (by omega) (h2.congr g2)]
theorem b5P {pf:By→Nat}{nn:Nat→Prop}{ff:Nat→By}{R:Nat→Prop}(hf:∀x,R x→pf (ff x)=x):∀(ps:List PO) (n:Nat) (keys:List By) (r r':By) (es:List (By×PO)),keys.length=ps.length→(∀k∈keys,35∉k∧∀c∈k,(c.toNat:Int)≠0)→okRs ff R ps→fxPs ps→lvPs ps≤n→SpE (SpF pf nn n) es (prDs ff keys ps++62::62::r) (62::62::r')→es.map (·.1)=keys∧es.map (·.2)=ps
 | [],n,[],r,r',[],hl,hk,h,hfx,hn,hs=>⟨rfl,rfl⟩
 | [],n,_::_,r,r',es,hl,hk,h,hfx,hn,hs=>by simp at hl
 | [],n,[],r,r',e::es,hl,hk,h,hfx,hn,hs=>by
  obtain⟨l1,l2,h1,_⟩:=hs;simp only[prDs,List.nil_append]at h1;rw[a7b (show a0h ((62:UInt8).toNat:Int)=false by decide) (by decide)]at h1;simp at h1
 | p::ps,n,[],r,r',es,hl,hk,h,hfx,hn,hs=>by simp at hl
 | p::ps,n,k::keys,r,r',[],hl,hk,h,hfx,hn,hs=>by
  have hs:lps _=lps _:=hs;have e:prDs ff (k::keys) (p::ps)++62::62::r=47::(encN k++(spc (sepD p)++(prP ff p++(prDs ff keys ps++62::62::r)))):=by simp[prDs]
  rw[e,a1K (a4m _),a7b (show a0h ((62:UInt8).toNat:Int)=false by decide) (by decide)]at hs;simp at hs
 | p::ps,n,k::keys,r,r',q::es,hl,hk,h,hfx,hn,hs=>by
  simp only[okRs]at h;simp only[fxPs]at hfx;simp only[lvPs]at hn;obtain⟨l1,l2,h1,h2,_,h4,h5⟩:=hs;have e:prDs ff (k::keys) (p::ps)++62::62::r=47::(encN k++(spc (sepD p)++(prP ff p++(prDs ff keys ps++62::62::r)))):=by simp[prDs]
  rw[e,a1K (a4m _)]at h1;injection h1 with _ h1;subst h1;have hF:=b5M ff keys ps r;obtain⟨w1,w2,w3⟩:=a1x (b3b h.1 (prDs ff keys ps++62::62::r)) (encN k) (a4B k);have hb:=a5O k [] (hk k (by simp)).2;rw[w1,hb]at h2;injection h2 with h2;obtain⟨e1,e2⟩:=a5X ff R p h.1 (prDs ff keys ps++62::62::r) false;rw[w2,a8H,a1K e1]at h4;obtain⟨g1,g2⟩:=a9g hf p n _ q.2 l2 h.1 hfx.1 (by omega) hF h4;obtain⟨g3,g4⟩:=b5P hf ps n keys r r' es (by simpa using hl) (fun k' hk'=>hk k' (by simp[hk'])) h.2 hfx.2 (by omega) (h5.congr g2);rw[List.map_cons,List.map_cons,g3,g4,g1,←h2];exact⟨rfl,rfl⟩
end
theorem c2b:∀(k u:Nat),u<10^(k+1)→Lib.nDigits u≤k+1:=by
 intro k
 induction k with
 | zero=>intro u h;rw[Lib.nDigits_small (by omega)];omega
 | succ k ih =>
  intro u h
  by_cases h1:u<10
  ·rw[Lib.nDigits_small h1];omega
  ·rw[Lib.nDigits_big h1]
   have h2:u/10<10^(k+1):=by rw[Nat.pow_succ]at h;omega
   have:=ih (u/10) h2;omega
theorem nd10 (u:Nat)(h:u<10000000000):Lib.nDigits u≤10:=c2b 9 u h
theorem a4F (n:Int)(h0:-2147483648≤n)(h1:n≤2147483647):(Lib.itoa n).length≤11:=by
 by_cases hneg:n<0
 ·obtain⟨u,rfl⟩:∃u:Nat,n=-(u:Int):=⟨n.natAbs,by omega⟩
  rw[Lib.itoa_neg u (by omega),List.length_cons,Lib.decDigits_length];have:=nd10 u (by omega);omega
 ·obtain⟨u,rfl⟩:∃u:Nat,n=u:=⟨n.toNat,by omega⟩
  rw[Lib.itoa_nonneg,Lib.decDigits_length];have:=nd10 u (by omega);omega
theorem a5A:∀q:By,(encN q).length≤3*q.length
 | []=>by simp[encN]
 | d::q=>by have:=a5A q;simp only[encN];split<;>simp<;>omega
theorem b3d (b:Bool):(spc b).length≤1:=by cases b<;>simp[spc]
mutual
theorem b7A {ff:Nat→By}{R:Nat→Prop}(hR:∀x,R x→(ff x).length≤34):∀p:PO,okR ff R p→(prP ff p).length+1≤18*wtP p
 | .null,_=>by simp[prP,a3x,wtP]
 | .bool b,_=>by cases b<;>simp[prP,a3j,a1Z,wtP]
 | .int n,h=>by
  simp only[okR]at h;have:=a4F n h.1 h.2;simp only[prP,wtP];omega
 | .real x,h=>by
  simp only[okR]at h;have:=hR x h.2;simp only[prP,wtP];omega
 | .lit s,_=>by simp only[prP,wtP,List.length_cons,List.length_append,List.length_nil];omega
 | .hexl s,_=>by simp only[prP,wtP,List.length_cons,List.length_append,List.length_nil];omega
 | .name s,_=>by
  have:=a5A s;simp only[prP,wtP,List.length_cons]
  split<;>simp<;>omega
 | .ref a b,h=>by
  simp only[okR]at h;have h1:=a4F a (by omega) (by omega);have h2:=a4F b (by omega) (by omega);simp only[prP,wtP,List.length_cons,List.length_append,List.length_nil];omega
 | .arr ps,h=>by
  simp only[okR]at h;have:=b5W hR ps h true;simp only[prP,wtP,List.length_cons,List.length_append,List.length_nil];omega
 | .dict ks ps,h=>by
  simp only[okR]at h;have:=b5V hR ks ps h.2.2.2;simp only[prP,wtP,List.length_cons,List.length_append,List.length_nil];omega
theorem b5W {ff:Nat→By}{R:Nat→Prop}(hR:∀x,R x→(ff x).length≤34):∀ps:List PO,okRs ff R ps→∀b:Bool,(prAs ff b ps).length≤18*wtPs ps
 | [],_,b=>by simp[prAs]
 | p::ps,h,b=>by
  simp only[okRs]at h;have a1:=b7A hR p h.1;have a2:=b5W hR ps h.2 false;have a3:=b3d (!b&&sepA p);simp only[prAs,wtPs,List.length_append];omega
theorem b5V {ff:Nat→By}{R:Nat→Prop}(hR:∀x,R x→(ff x).length≤34):∀(keys:List By) (ps:List PO),okRs ff R ps→(prDs ff keys ps).length≤18*(keys.map fun k=>k.length+1).sum+18*wtPs ps
 | [],_,h=>by simp[prDs]
 | _::_,[],h=>by simp[prDs]
 | k::ks,p::ps,h=>by
  simp only[okRs]at h;have a1:=b7A hR p h.1;have a2:=b5V hR ks ps h.2;have a3:=b3d (sepD p);have a4:=a5A k;simp only[prDs,wtPs,List.length_append,List.length_cons,List.map_cons,List.sum_cons];omega
end
end Go.Proofs.YtfkecmlmnhbmoaaGreatDoor
