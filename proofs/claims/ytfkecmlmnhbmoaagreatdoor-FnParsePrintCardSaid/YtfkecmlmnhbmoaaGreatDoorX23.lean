/- Parts P13 G1 G2 G3 P14 G4 G6 P18 P19 Q1 P22. -/
import Derived.Lib.ItoaLen
import Derived.Test.YtfkecmlmnhbmoaaGreatDoorX21
set_option linter.unusedVariables false
set_option linter.unusedSimpArgs false
set_option maxRecDepth 100000
set_option maxHeartbeats 40000000
namespace Go.Proofs.YtfkecmlmnhbmoaaGreatDoor
theorem a6y (t:By)(b:UInt8)(h:(b.toNat:Int)<128):Lib.decodeLastL (t++[b])=(b.toNat,1):=by
 have hg:(t++[b]).getD ((t++[b]).length-1) 0=b:=by simp[List.getD]
 unfold Lib.decodeLastL;rw[if_neg (by simp),hg,if_pos (by omega)]
theorem a7a (p:Nat→Bool)(a:By)(ha:∀c∈a.getLast?,(c.toNat:Int)<128∧p c.toNat=false):∀(n:Nat) (b rest:By) (f:Nat),b.length=n→a.length+n≤f→(∀c∈b,(c.toNat:Int)<128∧p c.toNat=true) →
  Lib.lastIdxFuncFrom p false (bs (a++b++rest)) f (a.length+b.length)=(a.length:Int)-1:=by
 intro n
 induction n with
 | zero =>
  intro b rest f hb hf _;obtain rfl:b=[]:=List.eq_nil_of_length_eq_zero hb
  cases hA:a.getLast? with
  | none =>
   have:a=[]:=by simpa using hA
   subst this;simp[Lib.lastIdxFuncFrom_zero]
  | some c =>
   obtain⟨a',rfl⟩:=List.getLast?_eq_some_iff.1 hA;have hc:=ha c (by rw[hA];rfl);simp only[List.length_append,List.length_singleton,Nat.add_zero]at hf;obtain⟨f,rfl⟩:∃f',f=f'+1:=⟨f-1,by omega⟩
   have ht:(bs (a'++[c]++[]++rest)).data.toList.take (a'++[c]).length=a'++[c]:=by
    rw[a1D,List.append_nil,List.take_left]
   simp only[Lib.lastIdxFuncFrom,List.length_nil,Nat.add_zero,ht,a6y a' c hc.1,hc.2,if_true];rw[if_pos (by simp)];simp
 | succ n ih =>
  intro b rest f hb hf hbc;have hne:b≠[]:=by intro e;subst e;simp at hb
  obtain⟨b',c,rfl⟩:∃b' c,b=b'++[c]:=⟨b.dropLast,b.getLast hne,(List.dropLast_concat_getLast hne).symm⟩;have hc:=hbc c (by simp);have hb':b'.length=n:=by simp at hb;omega
  obtain⟨f,rfl⟩:∃f',f=f'+1:=⟨f-1,by omega⟩
  have ht:(bs (a++(b'++[c])++rest)).data.toList.take (a.length+(b'++[c]).length)=(a++b')++[c]:=by
   rw[a1D,show a.length+(b'++[c]).length=(a++(b'++[c])).length by simp,List.take_left];simp
  simp only[Lib.lastIdxFuncFrom,ht,a6y (a++b') c hc.1,hc.2];rw[if_pos (by simp;omega),if_neg (by simp)];have:=ih b' ([c]++rest) f hb' (by omega) (fun d hd=>hbc d (by simp[hd]));rw[show a++(b'++[c])++rest=a++b'++([c]++rest) by simp,show a.length+(b'++[c]).length-1=a.length+b'.length by simp];exact this
theorem a6h (p:Nat→Bool)(a b:By)(ha:∀c∈a.getLast?,(c.toNat:Int)<128∧p c.toNat=false)(hb:∀c∈b,(c.toNat:Int)<128∧p c.toNat=true):Lib.trimRightF p (bs (a++b))=bs a:=by
 have h:=a7a p a ha b.length b [] (bs (a++b)).size rfl (by rw[a0f];simp) hb;rw[List.append_nil,show a.length+b.length=(bs (a++b)).size by rw[a0f];simp]at h;unfold Lib.trimRightF Lib.rightEndF Lib.lastIdxFunc;rw[h]
 cases hA:a.getLast? with
 | none =>
  have:a=[]:=by simpa using hA
  subst this;rw[if_neg (by simp),a3U];rfl
 | some c =>
  obtain⟨a',rfl⟩:=List.getLast?_eq_some_iff.1 hA;have hc:=ha c (by rw[hA];rfl);rw[if_pos (by simp)];have e1:(((a'++[c]).length:Int)-1).toNat=a'.length:=by simp
  rw[e1]
  have e2:(bs (a'++[c]++b)).extract a'.length (bs (a'++[c]++b)).size=bs (c::b):=by
   rw[a0f,a2u,List.append_assoc,List.drop_left];rfl
  have e3:Lib.decodeGoB (bs (c::b))=(c.toNat,1):=by
   unfold Lib.decodeGoB;rw[if_neg (by rw[a0f];simp)];exact a1G [] c b hc.1
  rw[e2,e3,a3U];congr 1;rw[show a'.length+1=(a'++[c]).length by simp,List.take_left]
open Go Go.RowKit
def a1v (n:Int):Bool:=n==9||n==10||n==11||n==12||n==13||n==32||n==133||n==160||n==5760||n==8232||n==8233||n==8239||n==8287||n==12288||(decide (8192≤n)&&decide (n≤8202))
theorem a8m (n:Int)(w:World):Calls Tryz.prog 95 #[.int .i32 n] w fun e w'=>e=.returned (.bool (a1v n))∧w'=w:=by
 by_cases h1:8192≤n
 all_goals
  go_enter Tryz.func95,Tryz.ntmps95
  go_wp2
  all_goals (go_ret;exact⟨by simp_all[a1v]<;>omega,rfl⟩)
theorem a5o {n:Int}{v:Bool}(h:a1v n=v)(w:World):Calls Tryz.prog 95 #[.int .i32 n] w fun e w'=>e=.returned (.bool v)∧w'=w:=h▸a8m n w
def wsZ (n:Nat):Bool:=a1v n||n==0
theorem c0b (n:Nat)(w:World):Calls Tryz.prog 94 #[.int .i32 n] w fun e w'=>e=.returned (.bool (wsZ n))∧w'=w:=by
 cases h1:a1v n<;>rcases xbt ((n:Int)==0) with h2|h2
 all_goals
  go_enter Tryz.func94,Tryz.ntmps94;go_wp2_with (go_at_call 95;refine(a5o h1 _).mono ?_;rintro e w'⟨rfl,rfl⟩)
  go_ret;refine⟨?_,rfl⟩;have:wsZ n=(a1v n||((n:Int)==0)):=by unfold wsZ;congr 1;rw[Bool.eq_iff_iff];simp
  rw[this,h1,h2];rfl
theorem b6A (w:World):Calls Tryz.prog 71 #[.agg #[]] w fun e w'=>e=.returned .nilIface∧w.grownBy w' none:=by
 go_enter Tryz.func71,Tryz.ntmps71
 go_wp2
 go_ret;exact⟨rfl,a0a (xgr _ _) _⟩
def a0v (w:World)(b:Nat)(l:By):Prop:=w.heap[b]?=some (.cells #[.string (bs l)] 9 (0,0))
theorem a0v.cell {w:World}{b:Nat}{l:By}(h:a0v w b l):w.cell? ⟨b,0,none⟩=some (.string (bs l))∧w.frozen? ⟨b,0,none⟩=false:=by
 unfold a0v at h;simp[World.cell?,World.frozen?,h]
theorem a0v.lt {w:World}{b:Nat}{l:By}(h:a0v w b l):b<w.heap.size:=(xgl h)
theorem a0v.keep {w w':World}{b:Nat}{l:By}(h:a0v w b l){r:Option Nat}(hg:w.grownBy w' r)(hr:some b≠r):a0v w' b l:=(hg.block b h.lt hr).trans h
theorem a0v.set {w:World}{b:Nat}{l:By}(h:a0v w b l)(l':By):a0v (w.setCell ⟨b,0,none⟩ (.string (bs l'))) b l':=by
 unfold a0v at h⊢;simp[World.setCell,Array.getElem?_modify,h]
theorem a4i (w:World)(b:Nat)(c:UInt8)(l:By)(h:a0v w b (c::l)):Calls Tryz.prog 67 #[.pointer (some ⟨b,0,none⟩)] w fun e w'=>e=.returned (.bool false)∧∃n,w'=w.drewN n:=by
 obtain⟨h0,hf⟩:=h.cell;have hs:((bs (c::l)).size:Int)=0↔False:=by rw[a0f];simp;omega
 have hz:(((bs (c::l)).size:Int)==0)=false:=by simpa using hs
 clear h;go_enter Tryz.func67,Tryz.ntmps67;go_wp2_with fail
 go_ret;exact⟨rfl,0,rfl⟩
theorem a2J (l:By)(k:Nat)(w:World):Calls Tryz.prog 104 #[.string (bs l),.int .i64 k] w fun e w'=>e=.returned (.string (bs (l.drop k)))∧w'=w:=by
 by_cases hk:k<l.length
 ·have h1:k<(bs l).size:=by rw[a0f];exact hk
  go_enter Tryz.func104,Tryz.ntmps104
  go_wp2
  go_ret;refine⟨?_,rfl⟩;rw[a0f,a2u];rfl
 ·have h1:¬k<(bs l).size:=by rw[a0f];exact hk
  go_enter Tryz.func104,Tryz.ntmps104
  go_wp2
  go_ret;refine⟨?_,rfl⟩;rw[List.drop_eq_nil_of_le (by omega)];rfl
def delZ (n:Int):Bool:=n==60||n==62||n==91||n==93||n==40||n==41||n==47
theorem b1u (n:Int)(w:World):Calls Tryz.prog 140 #[.int .u8 n] w fun e w'=>e=.returned (.bool (delZ n))∧w'=w:=by
 obtain⟨d,hd⟩:∃d:ByteArray,d=⟨#[60,62,91,93,40,41,47]⟩:=⟨_,rfl⟩;have hsz:d.size=7:=by rw[hd];rfl
 go_enter Tryz.func140,Tryz.ntmps140;go_wp2_with fail
 go_loopg [4] 7 (fun g t4 wr=>∃i:Nat,g+i=7∧t4=.int .i64 i∧wr=w∧delZ n=(([60,62,91,93,40,41,47]:List Int).drop i).any fun c=>n==c)
 case atStart=>exact⟨0,rfl,rfl,rfl,by simp[delZ,Bool.or_assoc]⟩
 case round =>
  obtain⟨i,hi,rfl,rfl,hx⟩:=hrel
  by_cases h7:i<7
  ·have:i=0∨i=1∨i=2∨i=3∨i=4∨i=5∨i=6:=by omega
   rcases this with rfl|rfl|rfl|rfl|rfl|rfl|rfl
   ·simp only[List.drop_succ_cons,List.drop_zero,List.any_cons,List.any_nil]at hx
    rcases xbt (n==60) with ht|ht
    ·rw[ht]at hx
     replace ht:(n==((((⟨#[60,62,91,93,40,41,47]⟩:ByteArray)[0]'(by decide)).toNat:Nat):Int))=true:=ht
     go_wp2
     go_ret;exact⟨by rw[hx];rfl,rfl⟩
    ·rw[ht]at hx
     replace ht:(n==((((⟨#[60,62,91,93,40,41,47]⟩:ByteArray)[0]'(by decide)).toNat:Nat):Int))=false:=ht
     go_wp2
     go_roundg 6
     case measure=>omega
     case rel=>exact⟨1,by omega,rfl,rfl,by rw[hx];rfl⟩
   ·simp only[List.drop_succ_cons,List.drop_zero,List.any_cons,List.any_nil]at hx
    rcases xbt (n==62) with ht|ht
    ·rw[ht]at hx
     replace ht:(n==((((⟨#[60,62,91,93,40,41,47]⟩:ByteArray)[1]'(by decide)).toNat:Nat):Int))=true:=ht
     go_wp2
     go_ret;exact⟨by rw[hx];rfl,rfl⟩
    ·rw[ht]at hx
     replace ht:(n==((((⟨#[60,62,91,93,40,41,47]⟩:ByteArray)[1]'(by decide)).toNat:Nat):Int))=false:=ht
     go_wp2
     go_roundg 5
     case measure=>omega
     case rel=>exact⟨2,by omega,rfl,rfl,by rw[hx];rfl⟩
   ·simp only[List.drop_succ_cons,List.drop_zero,List.any_cons,List.any_nil]at hx
    rcases xbt (n==91) with ht|ht
    ·rw[ht]at hx
     replace ht:(n==((((⟨#[60,62,91,93,40,41,47]⟩:ByteArray)[2]'(by decide)).toNat:Nat):Int))=true:=ht
     go_wp2
     go_ret;exact⟨by rw[hx];rfl,rfl⟩
    ·rw[ht]at hx
     replace ht:(n==((((⟨#[60,62,91,93,40,41,47]⟩:ByteArray)[2]'(by decide)).toNat:Nat):Int))=false:=ht
     go_wp2
     go_roundg 4
     case measure=>omega
     case rel=>exact⟨3,by omega,rfl,rfl,by rw[hx];rfl⟩
   ·simp only[List.drop_succ_cons,List.drop_zero,List.any_cons,List.any_nil]at hx
    rcases xbt (n==93) with ht|ht
    ·rw[ht]at hx
     replace ht:(n==((((⟨#[60,62,91,93,40,41,47]⟩:ByteArray)[3]'(by decide)).toNat:Nat):Int))=true:=ht
     go_wp2
     go_ret;exact⟨by rw[hx];rfl,rfl⟩
    ·rw[ht]at hx
     replace ht:(n==((((⟨#[60,62,91,93,40,41,47]⟩:ByteArray)[3]'(by decide)).toNat:Nat):Int))=false:=ht
     go_wp2
     go_roundg 3
     case measure=>omega
     case rel=>exact⟨4,by omega,rfl,rfl,by rw[hx];rfl⟩
   ·simp only[List.drop_succ_cons,List.drop_zero,List.any_cons,List.any_nil]at hx
    rcases xbt (n==40) with ht|ht
    ·rw[ht]at hx
     replace ht:(n==((((⟨#[60,62,91,93,40,41,47]⟩:ByteArray)[4]'(by decide)).toNat:Nat):Int))=true:=ht
     go_wp2
     go_ret;exact⟨by rw[hx];rfl,rfl⟩
    ·rw[ht]at hx
     replace ht:(n==((((⟨#[60,62,91,93,40,41,47]⟩:ByteArray)[4]'(by decide)).toNat:Nat):Int))=false:=ht
     go_wp2
     go_roundg 2
     case measure=>omega
     case rel=>exact⟨5,by omega,rfl,rfl,by rw[hx];rfl⟩
   ·simp only[List.drop_succ_cons,List.drop_zero,List.any_cons,List.any_nil]at hx
    rcases xbt (n==41) with ht|ht
    ·rw[ht]at hx
     replace ht:(n==((((⟨#[60,62,91,93,40,41,47]⟩:ByteArray)[5]'(by decide)).toNat:Nat):Int))=true:=ht
     go_wp2
     go_ret;exact⟨by rw[hx];rfl,rfl⟩
    ·rw[ht]at hx
     replace ht:(n==((((⟨#[60,62,91,93,40,41,47]⟩:ByteArray)[5]'(by decide)).toNat:Nat):Int))=false:=ht
     go_wp2
     go_roundg 1
     case measure=>omega
     case rel=>exact⟨6,by omega,rfl,rfl,by rw[hx];rfl⟩
   ·simp only[List.drop_succ_cons,List.drop_zero,List.any_cons,List.any_nil]at hx
    rcases xbt (n==47) with ht|ht
    ·rw[ht]at hx
     replace ht:(n==((((⟨#[60,62,91,93,40,41,47]⟩:ByteArray)[6]'(by decide)).toNat:Nat):Int))=true:=ht
     go_wp2
     go_ret;exact⟨by rw[hx];rfl,rfl⟩
    ·rw[ht]at hx
     replace ht:(n==((((⟨#[60,62,91,93,40,41,47]⟩:ByteArray)[6]'(by decide)).toNat:Nat):Int))=false:=ht
     go_wp2
     go_roundg 0
     case measure=>omega
     case rel=>exact⟨7,by omega,rfl,rfl,by rw[hx];rfl⟩
  ·obtain rfl:i=7:=by omega
   go_wp2
   go_ret;exact⟨by rw[hx];rfl,rfl⟩
def limV:Value:=.agg #[.int .i64 536870912,.int .i64 536870912,.int .i64 104857600,.int .i64 536870912,.int .i64 10000000,.int .i64 1000000,.int .i64 16777216,.int .i64 10000000,.int .i64 100]
theorem b0A (w:World):Calls Tryz.prog 79 #[] w fun e w'=>e=.returned limV∧w.grownBy w' none:=by
 go_enter Tryz.func79,Tryz.ntmps79
 go_wp2
 refine bodyPost_ret (v:=limV) (by simp[results,Tryz.results79,go_sem,limV,Tryz.sizeOf122]) rfl ⟨rfl,a0a (xgr _ _) _⟩
theorem b1v (w:World):Calls Tryz.prog 68 #[.slice none 0 0] w fun e w'=>e=.returned (.int .i64 100)∧w.grownBy w' none:=by
 go_enter Tryz.func68,Tryz.ntmps68;go_wp2_with fail
 refine(b0A _).mono ?_;rintro e w1⟨rfl,hg⟩;have hf:∀w,(Instr.field 122 limV 8).run Tryz.prog w=.ok (.int .i64 100) w:=fun w=>by kernel_rfl
 unfold limV at *;go_wp2_with fail
 go_ret;exact⟨rfl,hg⟩
theorem a5u (name:ByteArray)(k:Int)(hk:k≤100)(w:World):Calls Tryz.prog 80 #[.string name,.int .i64 k,.int .i64 100] w fun e w'=>e=.returned .nilIface∧w'=w:=by
 go_enter Tryz.func80,Tryz.ntmps80
 go_wp2
 go_ret;exact⟨rfl,rfl⟩
def eolP (r:Nat):Bool:=r==10||r==13
theorem b6x (s:ByteArray)(w:World):Calls Tryz.prog 98 #[.string s] w fun e w'=>(∃v,e=.returned (.tuple #[.string (if Lib.idxFunc eolP true s=-1 then ⟨#[]⟩ else s.extract (Lib.idxFunc eolP true s).toNat s.size),v]))∧Below w.heap.size w w':=by
 obtain⟨cs,hcs⟩:∃cs:By,cs=[10,13]:=⟨_,rfl⟩;have hbs:(⟨#[10,13]⟩:ByteArray)=bs cs:=by rw[hcs];rfl
 obtain⟨X,hX⟩:∃X,Lib.idxFunc eolP true s=X:=⟨_,rfl⟩;rw[hX];obtain⟨res,hres⟩:∃res:ByteArray,res=if X=-1 then ⟨#[]⟩ else s.extract X.toNat s.size:=⟨_,rfl⟩
 rw[←hres];have Hres:=xhd hres;clear hres;obtain⟨HX,Hcs⟩:=xh2 hX hcs;clear hX hcs;go_enter Tryz.func98,Tryz.ntmps98;go_wp2_with fail
 rw[hbs]
 go_loopg [] s.size (fun gf wx=>∃pos:Nat,wx.heap[w.heap.size]?=some (.stringIter s pos)∧Below w.heap.size w wx∧Lib.idxFuncFrom eolP true s gf pos=X∧s.size≤pos+gf)
 case atStart=>exact⟨0,World.iter_heap w s 0,(Below.refl _ w).alloc (Nat.le_refl _) _,HX.out,by omega⟩
 case round =>
  obtain⟨pos,hit,hbw,hleft,hfu⟩:=hrel
  by_cases hps:pos<s.size
  ·obtain⟨g',rfl⟩:∃g',gk=g'+1:=⟨gk-1,by omega⟩
   have hnx:∀ty,(Instr.next (.pointer (some ⟨w.heap.size,0,none⟩)) true ty).run Tryz.prog wr=_:=fun ty=>Lib.run_next_any_at wr w.heap.size s pos ty hit hps;have hwd:=Lib.width_pos s pos;obtain⟨R,hR⟩:∃R,(Utf8.decode s pos).1=R:=⟨_,rfl⟩;obtain⟨K,hK⟩:∃K,(Utf8.decode s pos).2=K:=⟨_,rfl⟩;simp only[Lib.idxFuncFrom,hps,if_true,hR,hK]at hleft;rw[hR,hK]at hnx;rw[hK]at hwd;have hit2:=Lib.iterAt_heap wr w.heap.size s pos (pos+K) hit;have hbw2:=Lib.below_iterAt hbw (k:=w.heap.size) (Nat.le_refl _) s (pos+K);obtain⟨W,hWd⟩:∃W,wr.iterAt w.heap.size s (pos+K)=W:=⟨_,rfl⟩;rw[hWd]at hnx hit2 hbw2;have hltW:w.heap.size<W.heap.size:=(xgl hit2);go_wp2_with fail
   go_loopg [] cs.length (fun g2 wi=>∃pre rest:By,cs=pre++rest∧rest.length≤g2∧wi.heap[W.heap.size]?=some (.stringIter (bs cs) pre.length)∧(pre.any fun c=>R==c.toNat)=false∧wi.heap[w.heap.size]?=some (.stringIter s (pos+K))∧Below w.heap.size w wi)
   case atStart=>exact⟨[],cs,rfl,Nat.le_refl _,World.iter_heap W _ 0,rfl,by rw[←hit2];exact Below.heap_alloc _ _ _ hltW,hbw2.alloc hbw2.size _⟩
   case round =>
    obtain⟨pre,rest,hsp,hgl,hi2,hpre,hi1,hbi⟩:=hrel
    cases rest with
    | nil =>
     have hn2:∀ty,(Instr.next (.pointer (some ⟨W.heap.size,0,none⟩)) true ty).run Tryz.prog wr=_:=fun ty=>Lib.run_next_end_at wr W.heap.size (bs cs) pre.length ty hi2 (by rw[a0f,hsp];simp)
     have hne:eolP R=false:=by
      rw[List.append_nil]at hsp;rw[←hsp,Hcs.out]at hpre;simp only[List.any_cons,List.any_nil,Bool.or_false]at hpre;exact hpre
     rw[hne]at hleft;simp only[Bool.false_eq_true,if_false]at hleft;have HL:=xhd hleft;clear hleft hsp;go_wp2_with fail
     go_roundg g'
     case measure=>omega
     case rel=>exact⟨pos+K,hi1,hbi,HL.out,by omega⟩
    | cons c rest =>
     have hcc:c=10∨c=13:=by have:c∈cs:=(by rw[hsp];simp);rw[Hcs.out]at this;simpa using this
     have hc1:(c.toNat:Int)<128:=by rcases hcc with rfl|rfl<;>decide
     have hlt2:pre.length<(bs cs).size:=by rw[a0f,hsp];simp
     have hn2:∀ty,(Instr.next (.pointer (some ⟨W.heap.size,0,none⟩)) true ty).run Tryz.prog wr=_:=fun ty=>Lib.run_next_any_at wr W.heap.size (bs cs) pre.length ty hi2 hlt2;have hdec:Utf8.decode (bs cs) pre.length=(c.toNat,1):=by rw[hsp];exact a1G pre c rest hc1
     rw[hdec]at hn2;simp only at hn2;have hi3:=Lib.iterAt_heap wr W.heap.size (bs cs) pre.length (pre.length+1) hi2;have hi4:=Lib.iterAt_other wr W.heap.size w.heap.size (bs cs) (pre.length+1) (by omega);have hbi3:=Lib.below_iterAt hbi (k:=W.heap.size) hbw2.size (bs cs) (pre.length+1);rw[hi1]at hi4;obtain⟨W3,hW3⟩:∃W3,wr.iterAt W.heap.size (bs cs) (pre.length+1)=W3:=⟨_,rfl⟩;rw[hW3]at hn2 hi3 hi4 hbi3;obtain⟨Hsp,HL,Hpre⟩:=xh3 hsp hleft hpre;clear hsp hleft hpre hdec hi2 hi1
     by_cases he:R=c.toNat
     ·have he2:((R:Int)==(c.toNat:Int))=true:=by rw[he];simp
      have hX:(pos:Int)=X:=by
       have:=HL.out;rw[if_pos (by rw[he];rcases hcc with rfl|rfl<;>rfl)]at this;exact this
      have hX2:¬X=-1:=by omega
      have hX3:X.toNat=pos:=by omega
      have hps2:pos≤s.size:=by omega
      have hr:=Hres.out;rw[if_neg hX2,hX3]at hr;clear he hX hX2 hX3;subst hr;go_wp2_with fail
      go_ret2;exact⟨⟨_,rfl⟩,hbi3⟩
     ·have he2:((R:Int)==(c.toNat:Int))=false:=by simp only[beq_eq_false_iff_ne];omega
      go_wp2_with fail
      go_roundg rest.length
      case measure=>simp at hgl;omega
      case rel=>exact⟨pre++[c],rest,by rw[Hsp.out];simp,Nat.le_refl _,by simpa using hi3,by rw[List.any_append,Hpre.out];simpa using he,hi4,hbi3⟩
  ·have hnx:∀ty,(Instr.next (.pointer (some ⟨w.heap.size,0,none⟩)) true ty).run Tryz.prog wr=_:=fun ty=>Lib.run_next_end_at wr w.heap.size s pos ty hit hps
   rw[Lib.idxFuncFrom_end _ _ _ _ _ hps]at hleft;have hr:=Hres.out;rw[if_pos hleft.symm]at hr;subst hr;have HL:=xhd hleft;clear hleft;go_wp2_with fail
   go_ret2;exact⟨⟨_,rfl⟩,hbw⟩
def a2f (cs:By)(r:Nat):Bool:=(cs.any fun c=>r==c.toNat)||(a1v r||r==0)
theorem a8U (s:ByteArray)(cs:By)(hcs0:cs≠[])(hcsa:∀c∈cs,(c.toNat:Int)<128)(w:World) :
  Calls Tryz.prog 131 #[.string s,.string (bs cs)] w fun e w'=>(∃v,e=.returned (.tuple #[.int .i64 (Lib.idxFunc (a2f cs) true s),v]))∧Below w.heap.size w w':=by
 obtain⟨X,hX⟩:∃X,Lib.idxFunc (a2f cs) true s=X:=⟨_,rfl⟩;rw[hX];have HX:=xhd hX
 have hl0:(((bs cs).size:Int)==0)=false:=by
  have:0<cs.length:=List.length_pos_iff.2 hcs0;rw[a0f];simp;omega
 obtain⟨z,hz⟩:∃z,z=bs cs:=⟨_,rfl⟩;rw[←hz]at hl0⊢;obtain⟨Hz,Hcs0,Hcsa⟩:=xh3 hz hcs0 hcsa;clear hX hz hcs0 hcsa;go_enter Tryz.func131,Tryz.ntmps131;go_wp2_with fail
 go_loopg [] s.size (fun gf wx=>∃pos:Nat,wx.heap[w.heap.size]?=some (.stringIter s pos)∧Below w.heap.size w wx∧Lib.idxFuncFrom (a2f cs) true s gf pos=X∧s.size≤pos+gf)
 case atStart=>exact⟨0,World.iter_heap w s 0,(Below.refl _ w).alloc (Nat.le_refl _) _,HX.out,by omega⟩
 case round =>
  obtain⟨pos,hit,hbw,hleft,hfu⟩:=hrel
  by_cases hps:pos<s.size
  ·obtain⟨g',rfl⟩:∃g',gk=g'+1:=⟨gk-1,by omega⟩
   have hnx:∀ty,(Instr.next (.pointer (some ⟨w.heap.size,0,none⟩)) true ty).run Tryz.prog wr=_:=fun ty=>Lib.run_next_any_at wr w.heap.size s pos ty hit hps;have hwd:=Lib.width_pos s pos;obtain⟨R,hR⟩:∃R,(Utf8.decode s pos).1=R:=⟨_,rfl⟩;obtain⟨K,hK⟩:∃K,(Utf8.decode s pos).2=K:=⟨_,rfl⟩;simp only[Lib.idxFuncFrom,hps,if_true,hR,hK]at hleft;rw[hR,hK]at hnx;rw[hK]at hwd;have hit2:=Lib.iterAt_heap wr w.heap.size s pos (pos+K) hit;have hbw2:=Lib.below_iterAt hbw (k:=w.heap.size) (Nat.le_refl _) s (pos+K);obtain⟨W,hWd⟩:∃W,wr.iterAt w.heap.size s (pos+K)=W:=⟨_,rfl⟩;rw[hWd]at hnx hit2 hbw2;have hltW:w.heap.size<W.heap.size:=(xgl hit2);go_wp2_with fail
   go_loopg [] cs.length (fun g2 wi=>∃pre rest:By,cs=pre++rest∧rest.length≤g2∧wi.heap[W.heap.size]?=some (.stringIter z pre.length)∧(pre.any fun c=>R==c.toNat)=false∧(pre≠[]→(a1v R||R==0)=false)∧wi.heap[w.heap.size]?=some (.stringIter s (pos+K))∧Below w.heap.size w wi)
   case atStart=>exact⟨[],cs,rfl,Nat.le_refl _,World.iter_heap W _ 0,rfl,fun h=>absurd rfl h,by rw[←hit2];exact Below.heap_alloc _ _ _ hltW,hbw2.alloc hbw2.size _⟩
   case round =>
    obtain⟨pre,rest,hsp,hgl,hi2,hpre,hps0,hi1,hbi⟩:=hrel
    cases rest with
    | nil =>
     have hn2:∀ty,(Instr.next (.pointer (some ⟨W.heap.size,0,none⟩)) true ty).run Tryz.prog wr=_:=fun ty=>Lib.run_next_end_at wr W.heap.size z pre.length ty hi2 (by rw[Hz.out,a0f,hsp];simp)
     have hne:a2f cs R=false:=by
      rw[List.append_nil]at hsp;rw[←hsp]at hpre hps0;unfold a2f;rw[hpre,hps0 Hcs0.out];rfl
     rw[hne]at hleft;simp only[Bool.false_eq_true,if_false]at hleft;have HL:=xhd hleft;clear hleft hsp;go_wp2_with fail
     go_roundg g'
     case measure=>omega
     case rel=>exact⟨pos+K,hi1,hbi,HL.out,by omega⟩
    | cons c rest =>
     have hc1:(c.toNat:Int)<128:=Hcsa.out c (by rw[hsp];simp);have hlt2:pre.length<z.size:=by rw[Hz.out,a0f,hsp];simp
     have hn2:∀ty,(Instr.next (.pointer (some ⟨W.heap.size,0,none⟩)) true ty).run Tryz.prog wr=_:=fun ty=>Lib.run_next_any_at wr W.heap.size z pre.length ty hi2 hlt2;have hdec:Utf8.decode z pre.length=(c.toNat,1):=by rw[Hz.out,hsp];exact a1G pre c rest hc1
     rw[hdec]at hn2;simp only at hn2;have hi3:=Lib.iterAt_heap wr W.heap.size z pre.length (pre.length+1) hi2;have hi4:=Lib.iterAt_other wr W.heap.size w.heap.size z (pre.length+1) (by omega);have hbi3:=Lib.below_iterAt hbi (k:=W.heap.size) hbw2.size z (pre.length+1);rw[hi1]at hi4;obtain⟨W3,hW3⟩:∃W3,wr.iterAt W.heap.size z (pre.length+1)=W3:=⟨_,rfl⟩;rw[hW3]at hn2 hi3 hi4 hbi3
     have hst:(R=c.toNat∨a1v R=true∨R=0)→a2f cs R=true:=by
      intro h;unfold a2f;rw[hsp];rcases h with h|h|h
      ·simp[h]
      ·simp[h]
      ·simp[h]
     obtain⟨Hsp,HL,Hpre,Hst⟩:=xh4 hsp hleft hpre hst;clear hsp hleft hpre hdec hi2 hi1 hst hps0;have hps2:pos≤s.size:=by omega
     have hX:(R=c.toNat∨a1v R=true∨R=0)→(pos:Int)=X:=by
      intro h;have:=HL.out;rw[if_pos (Hst.out h)]at this;exact this
     have HXX:=xhd hX;clear hX;rcases xbt ((R:Int)==(c.toNat:Int)) with he|he
     ·have hx:=HXX.out (.inl (by simp at he;omega))
      subst hx;go_wp2_with fail
      go_quiet (fail);go_wp2_with fail
      go_ret2;exact⟨⟨_,rfl⟩,below_drewN' hbi3 _⟩
     ·cases hsz:a1v R
      ·rcases xbt ((R:Int)==0) with h0|h0
       ·have hx:=HXX.out (.inr (.inr (by simp at h0;omega)))
        subst hx;go_wp2_with fail
        refine(a5o hsz _).mono ?_;rintro e w'⟨rfl,hw'⟩;subst w';go_wp2_with fail
        go_quiet (fail);go_wp2_with fail
        go_ret2;exact⟨⟨_,rfl⟩,below_drewN' hbi3 _⟩
       ·go_wp2_with fail
        refine(a5o hsz _).mono ?_;rintro e w'⟨rfl,hw'⟩;subst w';go_wp2_with fail
        go_roundg rest.length
        case measure=>simp at hgl;omega
        case rel=>exact⟨pre++[c],rest,by rw[Hsp.out];simp,Nat.le_refl _,by simpa using hi3,by rw[List.any_append,Hpre.out];simp at he⊢;omega,fun _=>by rw[hsz];simp at h0⊢;omega,hi4,hbi3⟩
      ·have hx:=HXX.out (.inr (.inl hsz))
       subst hx;go_wp2_with fail
       refine(a5o hsz _).mono ?_;rintro e w'⟨rfl,hw'⟩;subst w';go_wp2_with fail
       go_quiet (fail);go_wp2_with fail
       go_ret2;exact⟨⟨_,rfl⟩,below_drewN' hbi3 _⟩
  ·have hnx:∀ty,(Instr.next (.pointer (some ⟨w.heap.size,0,none⟩)) true ty).run Tryz.prog wr=_:=fun ty=>Lib.run_next_end_at wr w.heap.size s pos ty hit hps
   rw[Lib.idxFuncFrom_end _ _ _ _ _ hps]at hleft;subst hleft;go_wp2_with fail
   go_ret2;exact⟨⟨_,rfl⟩,hbw⟩
end Go.Proofs.YtfkecmlmnhbmoaaGreatDoor
namespace Go.Proofs.YtfkecmlmnhbmoaaGreatDoor
theorem b6Q (p:Nat→Bool)(s:ByteArray):∀(f pos:Nat),Lib.idxFuncFrom p true s f pos=Lib.idxFuncFrom (fun r=>!p r) false s f pos:=by
 intro f
 induction f with
 | zero=>intro pos;rfl
 | succ f ih =>
  intro pos;simp only[Lib.idxFuncFrom,ih]
  split
  ·congr 1
   simp
  ·rfl
theorem a2U (p:Nat→Bool)(a b:By)(ha:∀c∈a,(c.toNat:Int)<128∧p c.toNat=false)(hb:∀c∈b.head?,(c.toNat:Int)<128∧p c.toNat=true):Lib.idxFunc p true (bs (a++b))=if b=[] then -1 else (a.length:Int):=by
 unfold Lib.idxFunc;rw[b6Q];have hq:∀c∈a,(!p c.toNat)=true:=fun c hc=>by rw[(ha c hc).2];rfl
 have h1:(a++b).takeWhile (fun c=>!p c.toNat)=a:=by
  rw[List.takeWhile_append_of_pos hq]
  cases b with
  | nil=>simp
  | cons c b=>simp[(hb c (by simp)).2]
 have h2:(a++b).dropWhile (fun c=>!p c.toNat)=b:=by
  rw[List.dropWhile_append_of_pos hq]
  cases b with
  | nil=>simp
  | cons c b=>simp[(hb c (by simp)).2]
 have:=a7L (fun r=>!p r) (fun c=>!p c.toNat) (a++b) [] (bs (a++b)).size (by rw[a0f];exact Nat.le_refl _) (by rw[h1];exact fun c hc=>⟨(ha c hc).1,hq c hc⟩) (by rw[h2];exact fun c hc=>⟨(hb c hc).1,by simp[(hb c hc).2]⟩);rw[h1,h2]at this;simpa using this
theorem b0v (p:Nat→Bool):∀(a pre b:By) (f:Nat),a.length≤f→(∀c∈a,(c.toNat:Int)<128∧p c.toNat=false) →
  Lib.idxFuncFrom p true (bs (pre++(a++b))) f pre.length=Lib.idxFuncFrom p true (bs (pre++(a++b))) (f-a.length) (pre.length+a.length):=by
 intro a
 induction a with
 | nil=>intro pre b f _ _;simp
 | cons c a ih =>
  intro pre b f hf ha;obtain⟨f,rfl⟩:∃f',f=f'+1:=⟨f-1,by simp at hf;omega⟩;have hc:=ha c (by simp);have hlt:pre.length<(bs (pre++(c::a++b))).size:=by rw[a0f];simp
  conv=>lhs;unfold Lib.idxFuncFrom
  rw[if_pos hlt,List.cons_append,a1G pre c (a++b) hc.1,if_neg (by simp[hc.2])];have:=ih (pre++[c]) b f (by simp at hf;omega) (fun d hd=>ha d (by simp[hd]));simp only[List.append_assoc,List.singleton_append,List.length_append,List.length_singleton]at this;rw[this];congr 1
  ·simp
  ·simp;omega
theorem b8P (p:Nat→Bool)(a b:By)(ha:∀c∈a,(c.toNat:Int)<128∧p c.toNat=false):Lib.idxFunc p true (bs (a++b))=-1∨((a.length:Int)≤Lib.idxFunc p true (bs (a++b))∧Lib.idxFunc p true (bs (a++b))<((a++b).length:Nat)):=by
 have h:=b0v p a [] b (bs (a++b)).size (by rw[a0f];simp) ha;simp only[List.nil_append,List.length_nil,Nat.zero_add]at h;unfold Lib.idxFunc;rw[h];have:=Lib.idxFuncFrom_range p true (bs (a++b)) ((bs (a++b)).size-a.length) a.length;rw[a0f]at this⊢;exact this
theorem a2C {n:Int}(h:a0h n=true):n=0∨n=9∨n=10∨n=12∨n=13∨n=32:=by
 unfold a0h at h;simp at h;omega
theorem a3a {n:Int}(h:a0s n=true):32≤n∧n≤126:=by
 unfold a0s at h;simp at h;omega
theorem a3e {q:UInt8→Bool}{l:By} : ∀c∈l.takeWhile q,q c=true:=by
 induction l with
 | nil=>intro c hc;simp at hc
 | cons e l ih =>
  intro c hc;rw[List.takeWhile_cons]at hc
  split at hc
  ·rename_i he
   rcases List.mem_cons.1 hc with rfl|hc
   ·exact he
   ·exact ih c hc
  ·simp at hc
theorem a3P {q:UInt8→Bool}{l:By} : ∀c∈(l.dropWhile q).head?,q c=false:=by
 intro c hc;have:=List.head?_dropWhile_not (p:=q) l;rw[Option.mem_def]at hc;rw[hc]at this;simpa using this
theorem b3q {l r:By}(h:a0j false l false=(r,false))(hr:∀c∈r.head?,a0s (c.toNat:Int)=true):∃d,d=(l.dropWhile fun c=>a0h (c.toNat:Int))∧(∀c∈d.head?,a0s (c.toNat:Int)=true∧a0h (c.toNat:Int)=false)∧d.length≤l.length ∧
  ((d=r)∨(r=[]∧d=[37])∨∃c2 d' cm rest,d=37::c2::d'∧c2::d'=cm++rest∧(∀c∈cm,a0s (c.toNat:Int)=true)∧(∀c∈rest.head?,(c.toNat:Int)=10∨(c.toNat:Int)=13)∧a0j false rest false=(r,false)):=by
 rw[a8S]at h;have hw:=a3P (q:=fun c=>a0h (c.toNat:Int)) (l:=l);have hl:(l.dropWhile fun c=>a0h (c.toNat:Int)).length≤l.length:=(List.dropWhile_sublist _).length_le;generalize hd:(l.dropWhile fun c=>a0h (c.toNat:Int))=d at h hw hl;refine⟨d,rfl,?_,hl,?_⟩
 ·intro c hc
  refine⟨?_,hw c hc⟩
  cases d with
  | nil=>simp at hc
  | cons e d =>
   simp at hc;subst hc
   have hwe:=hw e (by simp)
   by_cases h37:(e.toNat:Int)=37
   ·rw[h37];decide
   ·simp only[a0j,hwe,Bool.false_eq_true,if_false,beq_iff_eq,h37]at h
    simp at h;exact hr e (by rw[←h];simp)
 ·cases d with
  | nil=>left;simp[a0j]at h;exact h.symm
  | cons e d =>
   have hwe:=hw e (by simp)
   by_cases h37:(e.toNat:Int)=37
   ·have he:e=37:=by apply UInt8.toNat_inj.1;simp;omega
    subst he
    cases d with
    | nil=>right;left;simp[a0j,a0h]at h;exact⟨h,rfl⟩
    | cons c2 d =>
     right;right
     have h2:a0j true (c2::d) false=(r,false):=by
      rw[←h]
      conv=>rhs;unfold a0j
      rfl
     obtain⟨cm,rest,e1,e2,e3⟩:=b2t _ _ h2;refine⟨c2,d,cm,rest,rfl,e1,e2,?_,?_⟩
     ·rcases e3 with⟨rfl,_⟩|⟨e,l2,rfl,he,_⟩
      ·simp
      ·intro c hc;simp at hc;subst hc;exact he
     ·rcases e3 with⟨rfl,rfl⟩|⟨e,l2,rfl,he,e4⟩
      ·rfl
      ·have hwe:a0h (e.toNat:Int)=true:=by rcases he with he|he<;>rw[he]<;>rfl
       simp only[a0j,hwe,if_true];exact e4
   ·left
    simp only[a0j,hwe,Bool.false_eq_true,if_false,beq_iff_eq,h37]at h;simpa using h
theorem b5J (l:By)(i:Nat)(h:i<(bs l).size):(bs l)[i]'h=l[i]'(by rwa [a0f]at h):=by
 simp[bs,ByteArray.getElem_eq_getElem_data]
theorem a3k {l pre post:By}{c:UInt8}(h:l=pre++c::post):∃hk:pre.length<(bs l).size,(bs l)[pre.length]'hk=c:=by
 subst h;refine⟨by rw[a0f];simp,?_⟩;rw[b5J];simp
open Go Go.RowKit
theorem b8h (w:World):PredAt Tryz.prog 94 #[] encR wsZ w:=fun W x _=>(c0b x W).mono fun _ _ h=>⟨h.1,0,by rw[h.2];rfl⟩
theorem b3D (args:Array Value)(w:World):(callFunc 94 args).run Tryz.prog w=.ok (.enter 94 args) w:=by
 simp[go_sem]
theorem b5C {c:UInt8}(h:a0h (c.toNat:Int)=true):(c.toNat:Int)<128∧wsZ c.toNat=true:=by
 have:=a2C h;refine⟨by omega,?_⟩;unfold wsZ a1v;simp only[Bool.or_eq_true,beq_iff_eq,decide_eq_true_eq,Bool.and_eq_true];omega
theorem b5B {c:UInt8}(h:a0s (c.toNat:Int)=true)(hw:a0h (c.toNat:Int)=false):(c.toNat:Int)<128∧wsZ c.toNat=false:=by
 have:=a3a h;have h32:(c.toNat:Int)≠32:=by intro e;rw[e]at hw;exact absurd hw (by decide)
 refine⟨by omega,?_⟩;unfold wsZ a1v;simp only[Bool.or_eq_false_iff,beq_eq_false_iff_ne,Bool.and_eq_false_iff,decide_eq_false_iff_not];omega
theorem b6y {c:UInt8}(h:a0s (c.toNat:Int)=true):(c.toNat:Int)<128∧eolP c.toNat=false:=by
 have:=a3a h;refine⟨by omega,?_⟩;unfold eolP;simp only[Bool.or_eq_false_iff,beq_eq_false_iff_ne];omega
theorem b6z {c:UInt8}(h:(c.toNat:Int)=10∨(c.toNat:Int)=13):(c.toNat:Int)<128∧eolP c.toNat=true:=by
 refine⟨by omega,?_⟩;unfold eolP;simp only[Bool.or_eq_true,beq_iff_eq];omega
def b3H (r:By)(w w':World)(e:Ending):Prop:=(∃q,(q=r∨r=[]∧q=[37])∧e=.returned (.tuple #[.string (bs q),.bool false]))∧Below w.heap.size w w'
theorem a1H (l r:By)(w:World)(h:a0j false l false=(r,false))(hr:∀c∈r.head?,a0s (c.toNat:Int)=true) :
  Calls Tryz.prog 81 #[.string (bs l),.bool false] w fun e w'=>b3H r w w' e:=by
 obtain⟨Hr,Hh⟩:=xh2 hr h;clear h hr;go_enter Tryz.func81,Tryz.ntmps81;go_wp2_with fail
 go_loopg [0,8] l.length (fun g t0 t8 wr=>∃l',l'.length≤g∧t0=.string (bs l')∧t8=.bool false∧a0j false l' false=(r,false)∧Below w.heap.size w wr)
 case atStart=>exact⟨l,Nat.le_refl _,rfl,rfl,Hh.out,Below.refl _ _⟩
 case round =>
  obtain⟨l',hg,rfl,rfl,hp,hb⟩:=hrel;obtain⟨d,hd,hdh,hdl,hcase⟩:=b3q hp Hr.out
  have htl:Lib.trimLeftF wsZ (bs l')=bs d:=by
   rw[hd];exact a3T wsZ (fun c=>a0h (c.toNat:Int)) l' (fun c hc=>b5C (a3e c hc)) (fun c hc=>b5B (hdh c (by rw[hd];exact hc)).1 (hdh c (by rw[hd];exact hc)).2)
  obtain⟨HT,Hd,Hcase,Hdh,Hp⟩:=xh5 htl hd hcase hdh hp;clear htl hd hcase hdh hp;go_wp2_with fail
  refine(Tryz.strings_TrimLeftFunc 94 #[] b3D wsZ (bs l') _ (b8h _)).mono ?_;rintro e w1⟨rfl,hb1⟩;rw[HT.out];have hb2:=hb.trans (hb1.mono hb.size);rcases Hcase.out with h1|h1|⟨c2,d',cm,rest,h1,h2,h3,h4,h5⟩
  ·have hph:=a3E l' false false
   rw[Hp.out]at hph;subst h1
   cases d with
   | nil =>
    have hz:(bs ([]:By)).size≤1:=by rw[a0f];simp
    go_wp2_with fail
    go_ret2;exact⟨⟨_,.inl rfl,rfl⟩,hb2⟩
   | cons c d =>
    cases d with
    | nil =>
     have hz:(bs [c]).size≤1:=by rw[a0f];simp
     go_wp2_with fail
     go_ret2;exact⟨⟨_,.inl rfl,rfl⟩,hb2⟩
    | cons c2 d =>
     have hz:¬(bs (c::c2::d)).size≤1:=by rw[a0f];simp
     have h37:((c.toNat:Int) != 37)=true:=by simpa using (hph c (by simp)).2
     obtain⟨hk,hget⟩:=a3k (l:=c::c2::d) (pre:=[]) (c:=c) (post:=c2::d) rfl;have hk0:0<(bs (c::c2::d)).size:=hk;have hg0:(bs (c::c2::d))[0]'hk0=c:=hget;clear hk hget;go_wp2_with fail
     go_ret2;exact⟨⟨_,.inl rfl,rfl⟩,hb2⟩
  ·obtain⟨h1,rfl⟩:=h1
   have hz:(bs [37]).size≤1:=by rw[a0f];simp
   go_wp2_with fail
   go_ret2;exact⟨⟨_,.inr ⟨rfl,rfl⟩,rfl⟩,hb2⟩
  ·subst h1
   have hz:¬(bs (37::c2::d')).size≤1:=by rw[a0f];simp
   obtain⟨hk,hget⟩:=a3k (l:=37::c2::d') (pre:=[]) (c:=37) (post:=c2::d') rfl;have hk0:0<(bs (37::c2::d')).size:=hk;have hg0:(bs (37::c2::d'))[0]'hk0=37:=hget
   have hidx:Lib.idxFunc eolP true (bs (37::c2::d'))=if rest=[] then -1 else ((37::cm).length:Int):=by
    rw[h2]
    exact a2U eolP (37::cm) rest (fun c hc=>by
     rcases List.mem_cons.1 hc with rfl|hc
     ·exact⟨by decide,by decide⟩
     ·exact b6y (h3 c hc)) (fun c hc=>b6z (h4 c hc))
   have hres:(if Lib.idxFunc eolP true (bs (37::c2::d'))=-1 then ⟨#[]⟩ else (bs (37::c2::d')).extract (Lib.idxFunc eolP true (bs (37::c2::d'))).toNat (bs (37::c2::d')).size)=bs rest:=by
    rw[hidx]
    by_cases hr0:rest=[]
    ·rw[if_pos hr0,hr0];rfl
    ·rw[if_neg hr0,if_neg (by omega),Int.toNat_natCast,a0f,a2u,h2]
     simp
   have hrl:rest.length≤d'.length+1:=by have:=congrArg List.length h2;simp at this;omega
   obtain⟨Hres,H5⟩:=xh2 hres h5;clear hres hidx h2 h3 h4 h5 hk hget;go_wp2_with fail
   refine(b6x (bs (37::c2::d')) _).mono ?_;rintro e w3⟨⟨v,rfl⟩,hb3⟩;rw[Hres.out];have hb4:=hb2.trans (hb3.mono hb2.size);go_wp2_with fail
   go_roundg (d'.length+1)
   case measure=>simp at hdl;omega
   case rel=>exact⟨rest,hrl,rfl,rfl,H5.out,hb4⟩
def a1F (w:World)(b B:Nat)(l:By):Prop:=b<B∧B≤w.heap.size∧∃p v,(p=.pointer none∨p=.pointer (some ⟨b,0,none⟩))∧w.heap[b]?=some (.cells #[p,v] 296 (0,0))∧OwnB B w v l
def c1y (B b:Nat)(w w':World):Prop:=Below b w w'∧w.heap.size≤w'.heap.size∧(∀k,k<B→k≠b→w'.heap[k]?=w.heap[k]?)∧∀k,k<w.heap.size→k≠b→(∀p v,w.heap[b]?=some (.cells #[p,v] 296 (0,0))→v.ownBlock≠some k)→w'.heap[k]?=w.heap[k]?
theorem a1F.keep {w w':World}{b B:Nat}{l:By}(h:a1F w b B l){r:Option Nat}(hg:w.grownBy w' r)(hr:∀k,r=some k→k<B∧k≠b):a1F w' b B l:=by
 obtain⟨h1,h2,p,v,h3,h4,h5⟩:=h;refine⟨h1,Nat.le_trans h2 hg.size,p,v,h3,(hg.block b (by omega) (fun e=>(hr b e.symm).2 rfl)).trans h4,h5.kept hg (fun k hk=>(hr k hk).1)⟩
theorem a5a (w:World)(b B:Nat)(l:By)(h:a1F w b B l):Calls Tryz.prog 230 #[.pointer (some ⟨b,0,none⟩)] w fun e w'=>e=.returned (.tuple #[])∧(∃p v,w.heap[b]?=some (.cells #[p,v] 296 (0,0))∧w'.heap[b]?=some (.cells #[.pointer (some ⟨b,0,none⟩),v] 296 (0,0))∧OwnB B w' v l)∧w.grownBy w' (some b)∧w'.heap.size=w.heap.size:=by
 obtain⟨h1,h2,p,v,h3,h4,h5⟩:=h;have hinfo:(Tryz.prog.info? 296).map (fun i=>i.size)=some 2:=by kernel_rfl
 obtain⟨j,hj,hjs⟩:=Option.map_eq_some_iff.1 hinfo;have u294:=Tryz.underlying294;have u314:=Tryz.underlying314;rcases h3 with rfl|rfl
 ·have c0:w.cell? ⟨b,0,none⟩=some (.pointer none):=by simp[World.cell?,h4]
  have f0:w.frozen? ⟨b,0,none⟩=false:=by simp[World.frozen?,h4]
  have hsh:w.shape? b=some (296,2):=by simp[World.shape?,h4]
  go_enter Tryz.func230,Tryz.ntmps230
  go_wp2
  rw[Lib.run_to_unsafe w ⟨b,0,none⟩ u294 u314 hj (by rw[hjs];decide) hsh (Nat.zero_lt_succ 1)];simp only[Result.andThen];rw[Oper.upon_value]
  go_wp2
  rw[run_callFunc_extern Tryz.func239 (by kernel_rfl) (by kernel_rfl) (by kernel_rfl) (e:=Extern.AbiNoEscape.same) (by kernel_rfl)];rw[Lib.run_noEscape];simp only[Result.andThen];rw[Oper.upon_value]
  go_wp2
  rw[Lib.run_from_unsafe w ⟨b,0,none⟩ u314 u294 hj hsh (by kernel_rfl)];simp only[Result.andThen];rw[Oper.upon_value]
  go_wp2
  go_end0;exact⟨rfl,⟨_,v,h4,by simp[World.setCell,Array.getElem?_modify,h4],h5.set h1 _⟩,a0e (xgr _ _) _ _,by simp⟩
 ·have c0:w.cell? ⟨b,0,none⟩=some (.pointer (some ⟨b,0,none⟩)):=by simp[World.cell?,h4]
  go_enter Tryz.func230,Tryz.ntmps230
  go_wp2
  rw[Lib.run_neq_ptr_same w _ u294 hj]
  go_wp2
  go_end0;exact⟨rfl,⟨_,v,h4,h4,h5⟩,xgr _ _,rfl⟩
def a5s (B b:Nat)(w w':World)(l:By):Prop:=a1F w' b B l∧c1y B b w w'
theorem a4b {w w1 wA w2:World}{b B:Nat}{l l':By}{v v' p0:Value}(hbB:b<B)(hBw:B≤w.heap.size)(hb0:w.heap[b]?=some (.cells #[p0,v] 296 (0,0)))(hb1:w1.heap[b]?=some (.cells #[.pointer (some ⟨b,0,none⟩),v] 296 (0,0)))(hv1:OwnB B w1 v l)(hg1:w.grownBy w1 (some b))(hA3:w1.grownBy wA none)
  (hg2:wA.grownBy w2 v.ownBlock)(hv2:OwnB B w2 v' l'):a5s B b w (w2.setCell ⟨b,1,none⟩ v') l':=by
 have hlt:b<w1.heap.size:=(xgl hb1);have hs1:=hg1.size;have hA2:=hA3.size;have hA4:∀k,k<w1.heap.size→wA.heap[k]?=w1.heap[k]?:=fun k hk=>hA3.block k hk (by simp);have hA1:=hA4 b hlt;have hne:some b≠v.ownBlock:=a2w hv1 hbB
 have hb2:w2.heap[b]?=some (.cells #[.pointer (some ⟨b,0,none⟩),v] 296 (0,0)):=by
  rw[hg2.block b (by omega) hne,hA1];exact hb1
 have hs2:=hg2.size;refine⟨⟨hbB,by simp;omega,_,v',.inr rfl,by simp[World.setCell,Array.getElem?_modify,hb2],hv2.set hbB _⟩,⟨?_,?_,?_,?_,?_⟩,by simp;omega,?_,?_⟩
 ·exact((hg2.os.trans hA3.os).trans hg1.os)
 ·exact((hg2.tape.trans hA3.tape).trans hg1.tape)
 ·exact((hg2.output.trans hA3.output).trans hg1.output)
 ·simp;omega
 ·intro k hk
  rw[Below.heap_setCell _ _ _ _ (by simp;omega)];rw[hg2.block k (by omega) (fun e=>by have:=(hv1.lt k e.symm).1;omega),hA4 k (by omega)];exact hg1.block k (by omega) (by simp;omega)
 ·intro k hk hkb
  rw[Below.heap_setCell _ _ _ _ (by simpa using hkb)];rw[hg2.block k (by omega) (fun e=>by have:=(hv1.lt k e.symm).1;omega),hA4 k (by omega)];exact hg1.block k (by omega) (by simp;omega)
 ·intro k hk hkb hno
  rw[Below.heap_setCell _ _ _ _ (by simpa using hkb)];rw[hg2.block k (by omega) (fun e=>hno p0 v hb0 e.symm),hA4 k (by omega)];exact hg1.block k (by omega) (by simp;omega)
theorem a6i (w:World)(b B:Nat)(l:By)(c:UInt8)(h:a1F w b B l)(hl:l.length≤1000000000):Calls Tryz.prog 215 #[.pointer (some ⟨b,0,none⟩),.int .u8 c.toNat] w fun e w'=>e=.returned .nilIface∧a5s B b w w' (l++[c]):=by
 have hbB:=h.1;have hBw:=h.2.1;go_enter Tryz.func215,Tryz.ntmps215;go_wp2_with fail
 refine(a5a w b B l h).mono ?_;rintro e w1⟨rfl,⟨p0,v,hb0,hb1,hv1⟩,hg1,-⟩;have Hb0:=xhd hb0;clear hb0
 have hs1:=hg1.size;have c0:w1.cell? ⟨b,0,none⟩=some (.pointer (some ⟨b,0,none⟩)):=by simp[World.cell?,hb1]
 have c1:w1.cell? ⟨b,1,none⟩=some v:=by simp[World.cell?,hb1]
 have hlt:b<w1.heap.size:=(xgl hb1);obtain⟨Hb1,Hv1,Hg1⟩:=xh3 hb1 hv1 hg1;clear hb1 hv1 hg1
 go_wp2_with (at_builtin;go_must (refine a0X rfl (.tmp 11) (.tmp 13) rfl B _ l c _ rfl (OwnB.alloc Hv1.out _) _ rfl (by rw[World.cell?_alloc_at _ _ _ _ (by simp)];rfl) rfl (by omega) (by first|omega|(simp;omega)) ?_))
 intro v1 w2 hown1 hgr1
 have hb2:w2.heap[b]?=some (.cells #[.pointer (some ⟨b,0,none⟩),v] 296 (0,0)):=by
  rw[hgr1.block b (by simp;omega) (a2w Hv1.out hbB),Below.heap_alloc _ _ _ hlt];exact Hb1.out
 have d0:w2.cell? ⟨b,0,none⟩=some (.pointer (some ⟨b,0,none⟩)):=by simp[World.cell?,hb2]
 have d1:w2.cell? ⟨b,1,none⟩=some v:=by simp[World.cell?,hb2]
 have f1:w2.frozen? ⟨b,1,none⟩=false:=by simp[World.frozen?,hb2]
 obtain⟨g,cap,rfl⟩:∃g cap,v1=.slice (some ⟨g,0,none⟩) (l.length+1) cap:=by
  rcases hown1.2 with⟨_,h0⟩|⟨g,cap,cur,hv,_⟩
  ·simp at h0
  ·exact⟨g,cap,by simpa using hv⟩
 have HP:=xhd (a4b hbB hBw Hb0.out Hb1.out Hv1.out Hg1.out (a0a (xgr _ _) _) hgr1 hown1);clear hb2 hgr1 hown1;go_wp2_with fail
 go_ret;exact⟨rfl,HP.out⟩
theorem a4x (w:World)(b B:Nat)(l:By)(t:By)(h:a1F w b B l)(hl:l.length+t.length≤1000000000):Calls Tryz.prog 217 #[.pointer (some ⟨b,0,none⟩),.string (bs t)] w fun e w'=>(∃k,e=.returned (.tuple #[k,.nilIface]))∧a5s B b w w' (l++t):=by
 have hbB:=h.1;have hBw:=h.2.1;obtain⟨i0,hi,hz0,hz1,hz2⟩:=info_parts Tryz.info5;go_enter Tryz.func217,Tryz.ntmps217;go_wp2_with fail
 refine(a5a w b B l h).mono ?_;rintro e w1⟨rfl,⟨p0,v,hb0,hb1,hv1⟩,hg1,-⟩;have Hb0:=xhd hb0;clear hb0
 have hs1:=hg1.size;have c0:w1.cell? ⟨b,0,none⟩=some (.pointer (some ⟨b,0,none⟩)):=by simp[World.cell?,hb1]
 have c1:w1.cell? ⟨b,1,none⟩=some v:=by simp[World.cell?,hb1]
 have hlt:b<w1.heap.size:=(xgl hb1);obtain⟨Hb1,Hv1,Hg1⟩:=xh3 hb1 hv1 hg1;clear hb1 hv1 hg1
 have hts:(bs t).size=t.length:=a0f t;have Hts:=xhd hts;clear hts
 go_wp2_with (at_builtin;refine Lib.wpList_append_own_string _ rfl _ _ 84 9 rfl B 5 i0 Tryz.underlying84 Tryz.underlying9 hi hz0 hz1 hz2 _ _ _ rfl Hv1.out (bs t) rfl (by rw[Hts.out];unfold maxLen;omega) (by rw[Hts.out];omega) (by omega) ?_)
 intro v1 w2 hown1 hgr1 _
 have hb2:w2.heap[b]?=some (.cells #[.pointer (some ⟨b,0,none⟩),v] 296 (0,0)):=by
  rw[hgr1.block b hlt (a2w Hv1.out hbB)];exact Hb1.out
 have d0:w2.cell? ⟨b,0,none⟩=some (.pointer (some ⟨b,0,none⟩)):=by simp[World.cell?,hb2]
 have d1:w2.cell? ⟨b,1,none⟩=some v:=by simp[World.cell?,hb2]
 have f1:w2.frozen? ⟨b,1,none⟩=false:=by simp[World.frozen?,hb2]
 have hown2:OwnB B w2 v1 (l++t):=by
  unfold OwnB;have e1:Lib.strCells (bs t)=t.map fun c=>Value.int .u8 (c.toNat:Int):=by simp[Lib.strCells,bs]
  rw[e1,Hts.out]at hown1;simpa using hown1
 obtain⟨ao,n',cap,rfl⟩:∃ao n' cap,v1=.slice ao n' cap:=by
  rcases hown1.2 with⟨hv,_⟩|⟨g,cap,cur,hv,_⟩
  ·exact⟨_,_,_,hv⟩
  ·exact⟨_,_,_,hv⟩
 have HP:=xhd (a4b hbB hBw Hb0.out Hb1.out Hv1.out Hg1.out (xgr _ _) hgr1 hown2);clear hb2 hgr1 hown1 hown2;go_wp2_with fail
 go_ret2;exact⟨⟨_,rfl⟩,HP.out⟩
theorem b1g (w:World)(B:Nat)(v:Value)(l:By)(c:UInt8)(hc:(c.toNat:Int)<128)(h:OwnB B w v l)(hB:B≤w.heap.size)(hl:l.length≤1000000000):Calls Tryz.prog 234 #[v,.int .i32 c.toNat] w fun e w'=>∃v',e=.returned v'∧OwnB B w' v' (l++[c])∧∃o,(w.alloc o).grownBy w' v.ownBlock:=by
 have HV:=xhd h;clear h;go_enter Tryz.func234,Tryz.ntmps234;go_wp2_with (at_builtin;go_must (refine a0X rfl (.tmp 8) (.tmp 11) rfl B _ l c _ rfl (OwnB.alloc HV.out _) _ rfl (by rw[World.cell?_alloc_at _ _ _ _ (by simp)];rfl) rfl (by omega) (by first|omega|(simp;omega)) ?_))
 intro v1 w2 hown1 hgr1
 obtain⟨g,cap,rfl⟩:∃g cap,v1=.slice (some ⟨g,0,none⟩) (l.length+1) cap:=by
  rcases hown1.2 with⟨_,h0⟩|⟨g,cap,cur,hv,_⟩
  ·simp at h0
  ·exact⟨g,cap,by simpa using hv⟩
 obtain⟨HO,HG⟩:=xh2 hown1 hgr1;clear hown1 hgr1;go_wp2_with fail
 go_ret;exact⟨_,rfl,HO.out,_,HG.out⟩
theorem b3C (w:World)(b B:Nat)(l:By)(c:UInt8)(hc:(c.toNat:Int)<128)(h:a1F w b B l)(hl:l.length≤1000000000):Calls Tryz.prog 225 #[.pointer (some ⟨b,0,none⟩),.int .i32 c.toNat] w fun e w'=>(∃k,e=.returned (.tuple #[k,.nilIface]))∧a5s B b w w' (l++[c]):=by
 have hbB:=h.1;have hBw:=h.2.1;go_enter Tryz.func225,Tryz.ntmps225;go_wp2_with fail
 refine(a5a w b B l h).mono ?_;rintro e w1⟨rfl,⟨p0,v,hb0,hb1,hv1⟩,hg1,-⟩;have Hb0:=xhd hb0;clear hb0
 have hs1:=hg1.size;have c0:w1.cell? ⟨b,0,none⟩=some (.pointer (some ⟨b,0,none⟩)):=by simp[World.cell?,hb1]
 have c1:w1.cell? ⟨b,1,none⟩=some v:=by simp[World.cell?,hb1]
 have hlt:b<w1.heap.size:=(xgl hb1)
 obtain⟨ao,n',cap',rfl⟩:∃ao n' cap,v=.slice ao n' cap:=by
  rcases hv1.2 with⟨hv,_⟩|⟨g,cap,cur,hv,_⟩
  ·exact⟨_,_,_,hv⟩
  ·exact⟨_,_,_,hv⟩
 obtain⟨Hb1,Hv1,Hg1⟩:=xh3 hb1 hv1 hg1;clear hb1 hv1 hg1
 go_wp2_with fail
 refine(b1g w1 B _ l c hc Hv1.out (by omega) hl).mono ?_;rintro e w2⟨v1,rfl,hown1,o,hgr1⟩
 have hb2:w2.heap[b]?=some (.cells #[.pointer (some ⟨b,0,none⟩),.slice ao n' cap'] 296 (0,0)):=by
  rw[hgr1.block b (by simp;omega) (a2w Hv1.out hbB),Below.heap_alloc _ _ _ hlt];exact Hb1.out
 have d0:w2.cell? ⟨b,0,none⟩=some (.pointer (some ⟨b,0,none⟩)):=by simp[World.cell?,hb2]
 have d1:w2.cell? ⟨b,1,none⟩=some (.slice ao n' cap'):=by simp[World.cell?,hb2]
 have f1:w2.frozen? ⟨b,1,none⟩=false:=by simp[World.frozen?,hb2]
 obtain⟨g,cap,rfl⟩:∃g cap,v1=.slice (some ⟨g,0,none⟩) (l.length+1) cap:=by
  rcases hown1.2 with⟨_,h0⟩|⟨g,cap,cur,hv,_⟩
  ·simp at h0
  ·exact⟨g,cap,by simpa using hv⟩
 have HP:=xhd (a4b hbB hBw Hb0.out Hb1.out Hv1.out Hg1.out (a0a (xgr _ _) _) hgr1 hown1);clear hb2 hgr1 hown1;go_wp2_with fail
 go_ret2;exact⟨⟨_,rfl⟩,HP.out⟩
theorem a5r (w:World)(b B:Nat)(l:By)(h:a1F w b B l):Calls Tryz.prog 219 #[.pointer (some ⟨b,0,none⟩)] w fun e w'=>e=.returned (.string (bs l))∧Below b w w':=by
 obtain⟨h1,h2,p,v,h3,h4,h5⟩:=h
 have hrow:w.ownsRow b 5 1 v l.length (l.map fun c=>Value.int .u8 (c.toNat:Int)):=by
  obtain⟨q1,q2⟩:=h5;refine⟨q1,?_⟩;rcases q2 with q2|⟨g,cap,cur,hv,hb,rest⟩
  ·exact .inl q2
  ·exact .inr ⟨g,cap,cur,hv,by omega,rest⟩
 have hne:v.ownBlock≠some b:=fun e=>a2w h5 h1 e.symm
 have hI:Lib.IsBuilder 296 5 b b (Lib.byteCells l) w:=by
  have hl:(Lib.byteCells l).length=l.length:=by simp[Lib.byteCells]
  rcases h3 with rfl|rfl
  ·exact .inl ⟨Nat.le_refl _,v,h4,by rw[hl];exact hrow,hne⟩
  ·exact .inr ⟨Nat.le_refl _,v,h4,by rw[hl];exact hrow,hne⟩
 exact Tryz.Builder_String_any b b l w hI (by omega)
theorem a1F.fresh (w:World):a1F (w.alloc (.cells #[.pointer none,.slice none 0 0] 296 (0,0))) w.heap.size (w.heap.size+1) [] :=
 ⟨by omega,by simp,.pointer none,.slice none 0 0,.inl rfl,heap_alloc_new w _,OwnB.nil _ _⟩
end Go.Proofs.YtfkecmlmnhbmoaaGreatDoor
namespace Go.Proofs.YtfkecmlmnhbmoaaGreatDoor
def sepA:PO→Bool
 | .name _=>false | .arr _=>false | .dict _ _=>false|_=>true
def sepD:PO→Bool
 | .null=>true | .bool _=>true | .int _=>true | .real _=>true | .ref _ _=>true|_=>false
def spc (b:Bool):By:=if b then [32] else []
mutual
def prP (ff:Nat→By):PO→By
 | .null=>a3x
 | .bool b=>if b then a3j else a1Z
 | .int n=>Lib.itoa n
 | .real x=>ff x
 | .lit s=>40::(s++[41])
 | .hexl s=>60::(s++[62])
 | .name s=>47::(if s=[] then [32] else encN s)
 | .ref n g=>Lib.itoa n++32::(Lib.itoa g++[32,82])
 | .arr kids=>91::(prAs ff true kids++[93])
 | .dict keys kids=>60::60::(prDs ff keys kids++[62,62])
def prAs (ff:Nat→By):Bool→List PO→By
 | _,[]=>[]
 | first,p::ps=>spc (!first&&sepA p)++(prP ff p++prAs ff false ps)
def prDs (ff:Nat→By):List By→List PO→By
 | k::ks,p::ps=>47::(encN k++(spc (sepD p)++(prP ff p++prDs ff ks ps)))
 | [],_=>[]
 | _::_,[]=>[]
end
mutual
def mapR (f:Nat→Nat):PO→PO
 | .real x=>.real (f x)
 | .arr kids=>.arr (a4I f kids)
 | .dict keys kids=>.dict keys (a4I f kids)
 | .null=>.null
 | .bool b=>.bool b
 | .int n=>.int n
 | .lit s=>.lit s
 | .hexl s=>.hexl s
 | .name s=>.name s
 | .ref n g=>.ref n g
def a4I (f:Nat→Nat):List PO→List PO
 | []=>[]
 | p::ps=>mapR f p::a4I f ps
end
mutual
def lvP:PO→Nat
 | .arr kids=>lvPs kids+1
 | .dict _ kids=>lvPs kids+1
 | _=>1
def lvPs:List PO→Nat
 | []=>0
 | p::ps=>max (lvP p) (lvPs ps)
end
mutual
def okR (ff:Nat→By)(R:Nat→Prop):PO→Prop
 | .int n=>-2147483648≤n∧n≤2147483647
 | .real x=>a1q (ff x)∧R x
 | .lit s=>∃t,litF (40::(s++[41])) 0 []=some (t,[])
 | .hexl s=>∀c∈s,0≤a0w (c.toNat:Int)
 | .name s=>∀c∈s,(c.toNat:Int)≠0
 | .ref n g=>0<n∧n≤2147483647∧0≤g∧g≤65535
 | .arr kids=>okRs ff R kids
 | .dict keys kids=>keys.length=kids.length∧keys.Nodup∧(∀k∈keys,35∉k∧∀c∈k,(c.toNat:Int)≠0)∧okRs ff R kids
 | .null=>True
 | .bool _=>True
def okRs (ff:Nat→By)(R:Nat→Prop):List PO→Prop
 | []=>True
 | p::ps=>okR ff R p∧okRs ff R ps
end
def Beg1 (r:By):Prop:=∃la,a0j false r false=(la,false)∧a0t la false=false∧a0p (a0c la) (· == 82)=false
def Beg (r:By):Prop:=∃la,a0j false r false=(la,false)∧a0t la false=false∧a0p (a0c la) (· == 82)=false∧Beg1 (a0k la)
theorem Beg.one {r:By}(h:Beg r):Beg1 r:=by
 obtain⟨la,h1,h2,h3,_⟩:=h;exact⟨la,h1,h2,h3⟩
def Fol (r:By):Prop:=EndW r∧Beg r
theorem a2Z (r:By)(o:Bool):a0j false (32::r) o=a0j false r o:=by
 simp only[a0j];rfl
theorem Beg.sp {r:By}(h:Beg r):Beg (32::r):=by
 obtain⟨la,h1,h2⟩:=h;exact⟨la,by rw[a2Z];exact h1,h2⟩
theorem Beg1.sp {r:By}(h:Beg1 r):Beg1 (32::r):=by
 obtain⟨la,h1,h2⟩:=h;exact⟨la,by rw[a2Z];exact h1,h2⟩
theorem Beg.fol {r:By}(h:Beg r):Fol (32::r):=⟨fun c hc=>by simp at hc;subst hc;decide,h.sp⟩
theorem b6r:Beg []:=⟨[],rfl,rfl,rfl,[],rfl,rfl,rfl⟩
theorem a0Q {c:UInt8}{l:By}(o:Bool)(hw:a0h (c.toNat:Int)=false)(h37:c≠37):a0j false (c::l) o=(c::l,o):=by
 have:((c.toNat:Int)==37)=false:=by
  simp only[beq_eq_false_iff_ne];intro e;apply h37;apply UInt8.toNat_inj.1
  show c.toNat=37
  omega
 simp only[a0j,hw,this,Bool.false_eq_true,if_false]
def dl (c:UInt8):Prop:=c=40∨c=47∨c=60∨c=62∨c=91∨c=93
theorem dl.facts {c:UInt8}(h:dl c):a0h (c.toNat:Int)=false∧c≠37∧a0Y (c.toNat:Int)=false∧(c.toNat:Int)≠123∧(c.toNat:Int)≠125∧(c.toNat:Int)≠41:=by
 rcases h with h|h|h|h|h|h<;>subst h<;>decide
theorem dl.fol {c:UInt8}(h:dl c)(l:By):Fol (c::l):=by
 obtain⟨h1,h2,h3,h4,h5,h6⟩:=h.facts;refine⟨fun d hd=>by simp at hd;subst hd;exact⟨h3,h4,h5,h6⟩,c::l,a0Q _ h1 h2,?_,?_,c::l,?_,?_,?_⟩
 ·simp[a0t,h3];omega
 ·simp[a0c,h3,a0p]
 ·simp only[a0k,List.dropWhile_cons,h3];exact a0Q _ h1 h2
 ·simp[a0t,h3];omega
 ·simp[a0c,h3,a0p]
theorem a4s {c:UInt8}(h:a0Y (c.toNat:Int)=true):a0h (c.toNat:Int)=false∧c≠37∧a0U (c.toNat:Int)=false:=by
 simp only[a0Y,Bool.and_eq_true,Bool.not_eq_true']at h;refine⟨h.1,fun e=>?_,h.2⟩;subst e;exact absurd h.2 (by decide)
theorem a3L {w r:By}(hw:∀c∈w,a0Y (c.toNat:Int)=true∧a0s (c.toNat:Int)=true)(hne:w≠[])(h82:a0p w (· == 82)=false)(hE:EndW r)(hr:Beg1 r):Beg (w++r):=by
 obtain⟨h1,h2,h3⟩:=a1x hE w hw
 cases w with
 | nil=>exact absurd rfl hne
 | cons c w =>
  obtain⟨e1,e2,_⟩:=a4s (hw c (by simp)).1;refine⟨c::w++r,a0Q _ e1 e2,h3,?_,?_⟩
  ·rw[h1];exact h82
  ·rw[h2];exact hr
theorem a3F {pf:By→Nat}{n:Nat}{w r:By}(hw:∀c∈w,a0Y (c.toNat:Int)=true∧a0s (c.toNat:Int)=true)(hne:w≠[]):rdV pf (n+1) (w++r) false=a1p pf (w++r) false:=by
 cases w with
 | nil=>exact absurd rfl hne
 | cons c w =>
  obtain⟨e1,e2,e3⟩:=a4s (hw c (by simp)).1;have hd:a0U (c.toNat:Int)=false:=e3;have e3:=e3;simp only[a0U,Bool.or_eq_false_iff]at e3
  have hi:is2 (c::(w++r)) 60=false:=by
   cases hwr:w++r with
   | nil=>rfl
   | cons d t=>simp only[is2];rw[e3.1.1.1.1.1.1.1.2];rfl
  rw[List.cons_append];simp only[rdV,a0Q false e1 e2,hi,hd,Bool.false_eq_true,if_false];rw[if_neg (by rw[e3.1.1.1.1.1.1.1.1.1];simp),if_neg (by rw[e3.1.1.1.1.1.1.1.2];simp),if_neg (by rw[e3.1.2];simp),if_neg (by rw[e3.1.1.1.1.1.2];simp)]
theorem b7G {pf:By→Nat}(n:Int)(t:By){r:By}(hr:Beg r):refF pf n t r false=some (.int n,r,false):=by
 obtain⟨la,p1,p2,p3,lb,p4,p5,p6⟩:=hr;simp only[refF,p1,p2,p4,p5,p6]
 split
 ·simp
 ·rw[if_pos (Or.inl (by intro e;rw[e]at p6;simp[a0p]at p6))]
  simp
theorem a9B (u:Nat):a0p (Lib.decDigits u) a0F=true∧a0p (Lib.decDigits u) (· == 82)=false:=by
 have h:=a4A u
 cases hl:Lib.decDigits u with
 | nil=>exact absurd hl (a7C _)
 | cons c l =>
  have:=h c (by rw[hl];simp);simp[a0p,a0F];omega
theorem a3W (n:Int):a0p (Lib.itoa n) (· == 82)=false:=by
 unfold Lib.itoa
 split
 ·rfl
 ·exact(a9B _).2
theorem a4R {n:Int}(h:0≤n):a0p (Lib.itoa n) a0F=true:=by
 unfold Lib.itoa;rw[if_neg (by omega)];exact(a9B _).1
theorem a2i (n:Int):∀c∈Lib.itoa n,a0Y (c.toNat:Int)=true∧a0s (c.toNat:Int)=true:=fun c hc=>⟨(a2O n c hc).1,(a2O n c hc).2.1⟩
theorem a4C (l:By):EndW (32::l):=fun c hc=>by simp at hc;subst hc;decide
theorem b7H {pf:By→Nat}(n g:Int)(h1:0<n)(h3:0≤g)(h4:g≤65535){r:By}(hr:EndW r):refF pf n (Lib.itoa n) (32::(Lib.itoa g++32::82::r)) false=some (.ref n g,r,false):=by
 obtain⟨w1,w2,w3⟩:=a1x (a4C (82::r)) (Lib.itoa g) (a2i g);obtain⟨v1,v2,v3⟩:=a1x hr [82] (by intro c hc;simp at hc;subst hc;decide)
 have hp:a0j false (32::(Lib.itoa g++32::82::r)) false=(Lib.itoa g++32::82::r,false):=by
  rw[a2Z];have hreg:=a2i g
  cases hl:Lib.itoa g with
  | nil=>exact absurd hl (a3o g)
  | cons c l =>
   obtain⟨e1,e2,_⟩:=a4s (hreg c (by rw[hl];simp)).1;exact a0Q _ e1 e2
 have hp2:a0j false (32::82::r) false=(82::r,false):=by
  rw[a2Z];exact a0Q _ (by decide) (by decide)
 have hnum:=a5c pf g (by omega) (by omega);simp only[List.singleton_append]at v1 v2 v3;simp only[refF,hp,w1,w2,w3,hp2,v1,v2,v3,hnum];rw[if_neg (by simp),if_neg (by simp[a4R h3,a4R (show 0≤n by omega)]),if_neg (by simp;omega)]
 have hlen:(32::(Lib.itoa g++32::82::r)).take ((32::(Lib.itoa g++32::82::r)).length-r.length)=32::(Lib.itoa g++[32,82]):=by
  have e:32::(Lib.itoa g++32::82::r)=(32::(Lib.itoa g++[32,82]))++r:=by simp
  rw[e,List.length_append,Nat.add_sub_cancel,List.take_left]
 rw[hlen]
 have hpc:a1W (32::(Lib.itoa g++[32,82]))=false:=by
  unfold a1W;rw[List.any_eq_false];intro c hc;simp only[List.mem_cons,List.mem_append,List.not_mem_nil,or_false]at hc;rcases hc with rfl|hc|rfl|rfl
  ·decide
  ·have:=(a2O g c hc).2.2.2
   intro e;apply this;apply UInt8.toNat_inj.1
   show c.toNat=37
   simp at e;omega
  ·decide
  ·decide
 rw[hpc];rfl
theorem a9Q {f:By→Bool→Rd PV}{m:Nat}{l:By}{acc:List PV} : a1j f m (32::l) false acc=a1j f m l false acc:=by
 cases m with
 | zero=>rfl
 | succ m=>simp only[a1j,a2Z]
theorem b2K {f:By→Bool→Rd PV}{m:Nat}{l:By}{ks:List By}{acc:List PV} : a0A f m (32::l) false ks acc=a0A f m l false ks acc:=by
 cases m with
 | zero=>rfl
 | succ m=>simp only[a0A,a2Z]
theorem b9G {pf:By→Nat}{n:Nat}{l:By} : rdV pf n (32::l) false=rdV pf n l false:=by
 cases n with
 | zero=>rfl
 | succ n=>simp only[rdV,a2Z]
theorem a7k (ff:Nat→By)(R:Nat→Prop)(p:PO)(h:okR ff R p):∃c t,prP ff p=c::t∧((a0Y (c.toNat:Int)=true∧sepA p=true∧sepD p=true)∨(dl c∧c≠93∧c≠62))∧(sepA p=false→dl c)∧(sepD p=false→dl c):=by
 have word:∀w:By,w≠[]→(∀c∈w,a0Y (c.toNat:Int)=true)→∃c t,w=c::t∧a0Y (c.toNat:Int)=true:=fun w h1 h2=>by
  cases w with
  | nil=>exact absurd rfl h1
  | cons c w=>exact⟨c,w,rfl,h2 c (by simp)⟩
 cases p with
 | null=>exact⟨_,_,rfl,.inl (by decide),by simp[sepA],by simp[sepD]⟩
 | bool b=>cases b<;>exact⟨_,_,rfl,.inl (by simp[sepA,sepD];decide),by simp[sepA],by simp[sepD]⟩
 | int n =>
  obtain⟨c,t,e,hc⟩:=word (Lib.itoa n) (a3o n) (fun c hc=>(a2O n c hc).1);exact⟨c,t,e,.inl ⟨hc,rfl,rfl⟩,by simp[sepA],by simp[sepD]⟩
 | real x =>
  have hk:=a4L h.1;obtain⟨c,t,e,hc⟩:=word (ff x) hk.1 (fun c hc=>(hk.2 c hc).1);exact⟨c,t,e,.inl ⟨hc,rfl,rfl⟩,by simp[sepA],by simp[sepD]⟩
 | ref n g =>
  obtain⟨c,t,e,hc⟩:=word (Lib.itoa n) (a3o n) (fun c hc=>(a2O n c hc).1);exact⟨c,t++32::(Lib.itoa g++[32,82]),by simp only[prP];rw[e];rfl,.inl ⟨hc,rfl,rfl⟩,by simp[sepA],by simp[sepD]⟩
 | lit s=>exact⟨40,_,rfl,.inr ⟨.inl rfl,by decide,by decide⟩,fun _=>.inl rfl,fun _=>.inl rfl⟩
 | hexl s=>exact⟨60,_,rfl,.inr ⟨.inr (.inr (.inl rfl)),by decide,by decide⟩,fun _=>.inr (.inr (.inl rfl)),fun _=>.inr (.inr (.inl rfl))⟩
 | name s=>exact⟨47,_,rfl,.inr ⟨.inr (.inl rfl),by decide,by decide⟩,fun _=>.inr (.inl rfl),fun _=>.inr (.inl rfl)⟩
 | arr kids=>exact⟨91,_,rfl,.inr ⟨.inr (.inr (.inr (.inr (.inl rfl)))),by decide,by decide⟩,fun _=>.inr (.inr (.inr (.inr (.inl rfl)))),fun _=>.inr (.inr (.inr (.inr (.inl rfl))))⟩
 | dict keys kids=>exact⟨60,_,rfl,.inr ⟨.inr (.inr (.inl rfl)),by decide,by decide⟩,fun _=>.inr (.inr (.inl rfl)),fun _=>.inr (.inr (.inl rfl))⟩
theorem b5U (ff:Nat→By)(R:Nat→Prop)(p:PO)(h:okR ff R p){r:By}(hr:Fol r):Beg (prP ff p++r):=by
 cases p with
 | null=>exact a3L (w:=a3x) (by decide) (by decide) (by decide) hr.1 hr.2.one
 | bool b =>
  cases b
  ·exact a3L (w:=a1Z) (by decide) (by decide) (by decide) hr.1 hr.2.one
  ·exact a3L (w:=a3j) (by decide) (by decide) (by decide) hr.1 hr.2.one
 | int n=>exact a3L (a2i n) (a3o n) (a3W n) hr.1 hr.2.one
 | real x =>
  have hk:=a4L h.1;refine a3L (fun c hc=>⟨(hk.2 c hc).1,(hk.2 c hc).2.1⟩) hk.1 ?_ hr.1 hr.2.one
  show a0p (ff x) (· == 82)=false
  cases hl:ff x with
  | nil=>rfl
  | cons c l =>
   have:=(hk.2 c (by rw[hl];simp)).2.2.1;simp only[a0p,beq_eq_false_iff_ne];intro e;apply this;apply UInt8.toNat_inj.1;show c.toNat=82;omega
 | ref n g =>
  simp only[prP,List.append_assoc,List.cons_append];refine a3L (a2i n) (a3o n) (a3W n) (a4C _) (Beg1.sp ?_);obtain⟨v1,v2,v3⟩:=a1x (a4C (82::r)) (Lib.itoa g) (a2i g);have hreg:=a2i g;have h82:=a3W g
  cases hl:Lib.itoa g with
  | nil=>exact absurd hl (a3o g)
  | cons c l =>
   rw[hl]at v1 v3 h82 hreg;obtain⟨e1,e2,_⟩:=a4s (hreg c (by simp)).1;exact⟨c::(l++32::82::r),a0Q _ e1 e2,v3,by rw[←List.cons_append,v1];exact h82⟩
 | lit s=>exact(dl.fol (.inl rfl) _).2
 | hexl s=>exact(dl.fol (.inr (.inr (.inl rfl))) _).2
 | name s=>exact(dl.fol (.inr (.inl rfl)) _).2
 | arr kids=>exact(dl.fol (.inr (.inr (.inr (.inr (.inl rfl))))) _).2
 | dict keys kids=>exact(dl.fol (.inr (.inr (.inl rfl))) _).2
theorem c2g (ff:Nat→By)(R:Nat→Prop)(p:PO)(h:okR ff R p):1≤(prP ff p).length:=by
 obtain⟨c,t,e,_⟩:=a7k ff R p h;rw[e];simp
theorem b7Q {ff:Nat→By}{R:Nat→Prop}{p:PO}(h:okR ff R p){r:By}(hr:Fol r):Fol (spc (sepA p)++(prP ff p++r)):=by
 cases hs:sepA p with
 | true=>exact(b5U ff R p h hr).fol
 | false =>
  obtain⟨c,t,e,_,h2,_⟩:=a7k ff R p h;refine⟨?_,by simpa[spc] using b5U ff R p h hr⟩;rw[e];exact((h2 hs).fol _).1
theorem b3b {ff:Nat→By}{R:Nat→Prop}{p:PO}(h:okR ff R p)(r:By):EndW (spc (sepD p)++(prP ff p++r)):=by
 cases hs:sepD p with
 | true=>exact a4C _
 | false =>
  obtain⟨c,t,e,_,_,h3⟩:=a7k ff R p h;rw[e];exact((h3 hs).fol _).1
theorem b5I (ff:Nat→By)(R:Nat→Prop):∀(ps:List PO),okRs ff R ps→∀r,Fol (prAs ff false ps++93::r):=by
 intro ps
 induction ps with
 | nil=>intro _ r;exact dl.fol (.inr (.inr (.inr (.inr (.inr rfl))))) r
 | cons p ps ih =>
  intro h r;simp only[okRs]at h;simp only[prAs,List.append_assoc,Bool.not_false,Bool.true_and];exact b7Q h.1 (ih h.2 r)
theorem b5M (ff:Nat→By):∀(ks:List By) (ps:List PO),∀r,Fol (prDs ff ks ps++62::62::r):=by
 intro ks ps r
 cases ks with
 | nil =>
  have e:prDs ff [] ps=[]:=by cases ps<;>simp[prDs]
  rw[e];exact dl.fol (.inr (.inr (.inr (.inl rfl)))) _
 | cons k ks =>
  cases ps with
  | nil =>
   have e:prDs ff (k::ks) []=[]:=by simp[prDs]
   rw[e];exact dl.fol (.inr (.inr (.inr (.inl rfl)))) _
  | cons p ps =>
   have e:prDs ff (k::ks) (p::ps)=47::(encN k++(spc (sepD p)++(prP ff p++prDs ff ks ps))):=by simp[prDs]
   rw[e];exact dl.fol (.inr (.inl rfl)) _
theorem b8v (ff:Nat→By)(R:Nat→Prop):∀(ps:List PO) (b:Bool),okRs ff R ps→ps.length≤(prAs ff b ps).length:=by
 intro ps
 induction ps with
 | nil=>intro _ _;simp
 | cons p ps ih =>
  intro b h;simp only[okRs]at h;have h1:=c2g ff R p h.1;have h2:=ih false h.2;simp only[prAs,List.length_append,List.length_cons];omega
theorem b8E (ff:Nat→By):∀(ks:List By) (ps:List PO),ks.length=ps.length→ks.length≤(prDs ff ks ps).length:=by
 intro ks
 induction ks with
 | nil=>intro _ _;simp
 | cons k ks ih =>
  intro ps h
  cases ps with
  | nil=>simp at h
  | cons p ps =>
   have h2:=ih ps (by simpa using h);simp only[prDs,List.length_append,List.length_cons];omega
theorem a5X (ff:Nat→By)(R:Nat→Prop)(p:PO)(h:okR ff R p)(r:By)(o:Bool):a0j false (prP ff p++r) o=(prP ff p++r,o)∧a0p (prP ff p++r) (· == 93)=false:=by
 obtain⟨c,t,e,h1,_⟩:=a7k ff R p h;rw[e];rcases h1 with⟨h1,_⟩|⟨h1,h2,_⟩
 ·obtain⟨a,b,d⟩:=a4s h1
  refine⟨a0Q _ a b,?_⟩;simp only[a0U,Bool.or_eq_false_iff]at d;exact d.1.1.1.1.2
 ·refine⟨a0Q _ h1.facts.1 h1.facts.2.1,?_⟩
  simp only[List.cons_append,a0p,beq_eq_false_iff_ne];intro e;apply h2;apply UInt8.toNat_inj.1;show c.toNat=93;omega
mutual
theorem b4R (pf:By→Nat)(ff:Nat→By)(R:Nat→Prop):∀(p:PO) (n:Nat) (r:By),okR ff R p→lvP p≤n→Fol r→∃r',rdV pf n (prP ff p++r) false=some (valP (mapR (fun x=>pf (ff x)) p),r',false)∧(r'=r∨r'=32::r)
 | .null,n,r,h,hn,hr=>by
  obtain⟨n,rfl⟩:∃m,n=m+1:=⟨n-1,by simp[lvP]at hn;omega⟩;obtain⟨w1,w2,w3⟩:=a1x hr.1 a3x (by decide);refine⟨r,?_,.inl rfl⟩;simp only[prP];rw[a3F (by decide) (by decide)];simp only[a1p,w1,w2,w3];rw[if_neg (by decide),if_neg (by decide),if_pos trivial];rfl
 | .bool b,n,r,h,hn,hr=>by
  obtain⟨n,rfl⟩:∃m,n=m+1:=⟨n-1,by simp[lvP]at hn;omega⟩;refine⟨r,?_,.inl rfl⟩
  cases b with
  | true =>
   obtain⟨w1,w2,w3⟩:=a1x hr.1 a3j (by decide);simp only[prP,if_true];rw[a3F (by decide) (by decide)];simp only[a1p,w1,w2,w3,if_true];rfl
  | false =>
   obtain⟨w1,w2,w3⟩:=a1x hr.1 a1Z (by decide);simp only[prP,Bool.false_eq_true,if_false];rw[a3F (by decide) (by decide)];simp only[a1p,w1,w2,w3];rw[if_neg (by decide),if_pos trivial];rfl
 | .int k,n,r,h,hn,hr=>by
  obtain⟨n,rfl⟩:∃m,n=m+1:=⟨n-1,by simp[lvP]at hn;omega⟩;simp only[okR]at h;obtain⟨w1,w2,w3⟩:=a1x hr.1 (Lib.itoa k) (a2i k);refine⟨r,?_,.inl rfl⟩;simp only[prP];rw[a3F (a2i k) (a3o k)]
  have hx:∀w:By,w=a3j∨w=a1Z∨w=a3x→Lib.itoa k≠w:=fun w hw e=>by
   have hs:=a5c pf k h.1 h.2;rw[e]at hs;rcases hw with rfl|rfl|rfl
   ·simp[numF,a0i,a3j,a0l,a0F]at hs
   ·simp[numF,a0i,a1Z,a0l,a0F]at hs
   ·simp[numF,a0i,a3x,a0l,a0F]at hs
  simp only[a1p,w1,w2,w3,a5c pf k h.1 h.2];rw[if_neg (hx _ (.inl rfl)),if_neg (hx _ (.inr (.inl rfl))),if_neg (hx _ (.inr (.inr rfl))),if_neg (by simp),if_neg (by simp)];exact b7G k _ hr.2
 | .real x,n,r,h,hn,hr=>by
  obtain⟨n,rfl⟩:∃m,n=m+1:=⟨n-1,by simp[lvP]at hn;omega⟩;simp only[okR]at h;have hk:=a4L h.1;have hreg:∀c∈ff x,a0Y (c.toNat:Int)=true∧a0s (c.toNat:Int)=true:=fun c hc=>⟨(hk.2 c hc).1,(hk.2 c hc).2.1⟩;obtain⟨w1,w2,w3⟩:=a1x hr.1 (ff x) hreg;refine⟨r,?_,.inl rfl⟩;simp only[prP];rw[a3F hreg hk.1]
  have hx:∀w:By,w=a3j∨w=a1Z∨w=a3x→ff x≠w:=fun w hw e=>by
   rw[e]at hk;rcases hw with rfl|rfl|rfl
   ·exact(hk.2 116 (by decide)).2.2.2.1 rfl
   ·exact(hk.2 102 (by decide)).2.2.2.2.1 rfl
   ·exact(hk.2 110 (by decide)).2.2.2.2.2 rfl
  simp only[a1p,w1,w2,w3,b4V pf h.1];rw[if_neg (hx _ (.inl rfl)),if_neg (hx _ (.inr (.inl rfl))),if_neg (hx _ (.inr (.inr rfl))),if_neg (by simp),if_pos (by simp)];rfl
 | .ref k g,n,r,h,hn,hr=>by
  obtain⟨n,rfl⟩:∃m,n=m+1:=⟨n-1,by simp[lvP]at hn;omega⟩;simp only[okR]at h;obtain⟨w1,w2,w3⟩:=a1x (a4C (Lib.itoa g++32::82::r)) (Lib.itoa k) (a2i k);refine⟨r,?_,.inl rfl⟩;have e:prP ff (.ref k g)++r=Lib.itoa k++32::(Lib.itoa g++32::82::r):=by simp[prP]
  rw[e,a3F (a2i k) (a3o k)];have hnum:=a5c pf k (by omega) (by omega)
  have hx:∀w:By,w=a3j∨w=a1Z∨w=a3x→Lib.itoa k≠w:=fun w hw e=>by
   have hs:=hnum;rw[e]at hs;rcases hw with rfl|rfl|rfl
   ·simp[numF,a0i,a3j,a0l,a0F]at hs
   ·simp[numF,a0i,a1Z,a0l,a0F]at hs
   ·simp[numF,a0i,a3x,a0l,a0F]at hs
  simp only[a1p,w1,w2,w3,hnum];rw[if_neg (hx _ (.inl rfl)),if_neg (hx _ (.inr (.inl rfl))),if_neg (hx _ (.inr (.inr rfl))),if_neg (by simp),if_neg (by simp)];exact b7H k g h.1 h.2.2.1 h.2.2.2 hr.1
 | .lit s,n,r,h,hn,hr=>by
  obtain⟨n,rfl⟩:∃m,n=m+1:=⟨n-1,by simp[lvP]at hn;omega⟩;simp only[okR]at h;obtain⟨t,ht⟩:=h;refine⟨r,?_,.inl rfl⟩;have e:prP ff (.lit s)++r=40::(s++41::r):=by simp[prP]
  have h1:=a9F ht r;have h2:litT s=t:=by unfold litT;rw[ht]
  rw[e];simp only[rdV,a0Q false (show a0h ((40:UInt8).toNat:Int)=false by decide) (by decide)];rw[if_pos (by decide),h1];simp only[mapR,valP,h2];rfl
 | .hexl s,n,r,h,hn,hr=>by
  obtain⟨n,rfl⟩:∃m,n=m+1:=⟨n-1,by simp[lvP]at hn;omega⟩;simp only[okR]at h;refine⟨r,?_,.inl rfl⟩;have e:prP ff (.hexl s)++r=60::(s++62::r):=by simp[prP]
  have h1:=a9D h r
  have h2:is2 (60::(s++62::r)) 60=false:=by
   cases s with
   | nil=>rfl
   | cons c s =>
    have:=a3V (h c (by simp));simp[is2];omega
  rw[e];simp only[rdV,a0Q false (show a0h ((60:UInt8).toNat:Int)=false by decide) (by decide),h2,h1];rw[if_neg (by decide),if_neg (by decide),if_pos (by decide),if_pos (by decide)];rfl
 | .name s,n,r,h,hn,hr=>by
  obtain⟨n,rfl⟩:∃m,n=m+1:=⟨n-1,by simp[lvP]at hn;omega⟩;simp only[okR]at h
  by_cases hs:s=[]
  ·subst hs
   refine⟨32::r,?_,.inr rfl⟩;have e:prP ff (.name [])++r=47::32::r:=by simp[prP]
   obtain⟨w1,w2,w3⟩:=a1x (a4C r) [] (by simp);simp only[List.nil_append]at w1 w2 w3;rw[e];simp only[rdV,a0Q false (show a0h ((47:UInt8).toNat:Int)=false by decide) (by decide),w1,w2,w3,is2];rfl
  ·refine⟨r,?_,.inl rfl⟩
   have e:prP ff (.name s)++r=47::(encN s++r):=by simp[prP,hs]
   obtain⟨w1,w2,w3⟩:=a1x hr.1 (encN s) (a4B s);have hb:=a5O s [] h
   have h2:is2 (47::(encN s++r)) 60=false:=by
    cases hl:encN s++r<;>simp[is2]
   rw[e];simp only[rdV,a0Q false (show a0h ((47:UInt8).toNat:Int)=false by decide) (by decide),w1,w2,w3,h2,hb];rw[if_neg (by decide),if_neg (by decide),if_neg (by decide),if_pos (by decide)];rfl
 | .arr kids,n,r,h,hn,hr=>by
  obtain⟨n,rfl⟩:∃m,n=m+1:=⟨n-1,by simp[lvP]at hn;omega⟩;simp only[okR]at h;simp only[lvP]at hn;refine⟨r,?_,.inl rfl⟩;have e:prP ff (.arr kids)++r=91::(prAs ff true kids++93::r):=by simp[prP]
  have h2:is2 (91::(prAs ff true kids++93::r)) 60=false:=by
   cases hl:prAs ff true kids++93::r<;>simp[is2]
  have hl:=b8v ff R kids true h;have h3:=b9H pf ff R kids n true (prAs ff true kids++93::r).length r [] h (by omega) (by simp;omega);rw[e];simp only[rdV,a0Q false (show a0h ((91:UInt8).toNat:Int)=false by decide) (by decide),h2,h3];rw[if_neg (by decide),if_neg (by decide),if_neg (by decide),if_neg (by decide),if_pos (by decide)];simp[mapR,valP]
 | .dict keys kids,n,r,h,hn,hr=>by
  obtain⟨n,rfl⟩:∃m,n=m+1:=⟨n-1,by simp[lvP]at hn;omega⟩;simp only[okR]at h;simp only[lvP]at hn;obtain⟨g1,g2,g3,g4⟩:=h;refine⟨r,?_,.inl rfl⟩;have e:prP ff (.dict keys kids)++r=60::60::(prDs ff keys kids++62::62::r):=by simp[prP]
  have hl:=b8E ff keys kids g1;have h3:=b9I pf ff R kids n keys (prDs ff keys kids++62::62::r).length r [] [] g1 g3 (by simpa using g2) g4 (by omega) (by simp;omega);rw[e];simp only[rdV,a0Q false (show a0h ((60:UInt8).toNat:Int)=false by decide) (by decide),List.tail_cons,h3];rw[if_neg (by decide),if_pos (by simp[is2])];simp[mapR,valP]
theorem b9H (pf:By→Nat)(ff:Nat→By)(R:Nat→Prop):∀(ps:List PO) (n:Nat) (b:Bool) (m:Nat) (r:By) (acc:List PV),okRs ff R ps→lvPs ps≤n→ps.length<m →
  a1j (rdV pf n) m (prAs ff b ps++93::r) false acc=some (acc++a4O (a4I (fun x=>pf (ff x)) ps),r,false)
 | [],n,b,m,r,acc,h,hn,hm=>by
  obtain⟨m,rfl⟩:∃k,m=k+1:=⟨m-1,by simp at hm;omega⟩;simp only[prAs,List.nil_append,a1j,a0Q false (show a0h ((93:UInt8).toNat:Int)=false by decide) (by decide)];rw[if_pos (show a0p (93::r) (· == 93)=true from rfl)];simp[a4I,a4O]
 | p :: ps, n, b, m, r, acc, h, hn, hm => by
  simp only[okRs]at h;simp only[lvPs]at hn;obtain⟨m,rfl⟩:∃k,m=k+1:=⟨m-1,by simp at hm;omega⟩
  have hsp:a1j (rdV pf n) (m+1) (prAs ff b (p::ps)++93::r) false acc=a1j (rdV pf n) (m+1) (prP ff p++(prAs ff false ps++93::r)) false acc:=by
   simp only[prAs,List.append_assoc]
   cases hb:(!b&&sepA p) with
   | true=>exact a9Q
   | false=>rfl
  rw[hsp];obtain⟨e1,e2⟩:=a5X ff R p h.1 (prAs ff false ps++93::r) false;obtain⟨r',h1,h2⟩:=b4R pf ff R p n (prAs ff false ps++93::r) h.1 (by omega) (b5I ff R ps h.2 r);have h3:=b9H pf ff R ps n false m r (acc++[valP (mapR (fun x=>pf (ff x)) p)]) h.2 (by omega) (by simp at hm;omega)
  have h4:a1j (rdV pf n) m r' false (acc++[valP (mapR (fun x=>pf (ff x)) p)])=some (acc++[valP (mapR (fun x=>pf (ff x)) p)]++a4O (a4I (fun x=>pf (ff x)) ps),r,false):=by
   rcases h2 with rfl|rfl
   ·exact h3
   ·rw[a9Q];exact h3
  simp only[a1j,e1,e2,h1,h4,Bool.false_eq_true,if_false];simp[a4I,a4O]
theorem b9I (pf:By→Nat)(ff:Nat→By)(R:Nat→Prop):∀(ps:List PO) (n:Nat) (keys:List By) (m:Nat) (r:By) (ks:List By) (acc:List PV),keys.length=ps.length→(∀k∈keys,35∉k∧∀c∈k,(c.toNat:Int)≠0)→(ks++keys).Nodup→okRs ff R ps→lvPs ps≤n→ps.length<m →
  a0A (rdV pf n) m (prDs ff keys ps++62::62::r) false ks acc=some ((ks++keys,acc++a4O (a4I (fun x=>pf (ff x)) ps)),r,false)
 | [],n,keys,m,r,ks,acc,hl,hk,hnd,h,hn,hm=>by
  obtain⟨m,rfl⟩:∃k,m=k+1:=⟨m-1,by simp at hm;omega⟩;obtain rfl:keys=[]:=List.eq_nil_of_length_eq_zero (by simpa using hl);simp only[prDs,List.nil_append,a0A,a0Q false (show a0h ((62:UInt8).toNat:Int)=false by decide) (by decide)];rw[if_pos (by simp[is2])];simp[a4I,a4O]
 | p::ps,n,[],m,r,ks,acc,hl,hk,hnd,h,hn,hm=>by simp at hl
 | p :: ps, n, k :: keys, m, r, ks, acc, hl, hk, hnd, h, hn, hm => by
  simp only[okRs]at h;simp only[lvPs]at hn;obtain⟨m,rfl⟩:∃k,m=k+1:=⟨m-1,by simp at hm;omega⟩;have e:prDs ff (k::keys) (p::ps)++62::62::r=47::(encN k++(spc (sepD p)++(prP ff p++(prDs ff keys ps++62::62::r)))):=by simp[prDs]
  have hF:=b5M ff keys ps r;generalize hT:prDs ff keys ps++62::62::r=T at *;obtain⟨w1,w2,w3⟩:=a1x (b3b h.1 T) (encN k) (a4B k);obtain⟨r',h1,h2⟩:=b4R pf ff R p n T h.1 (by omega) hF
  have hv:rdV pf n (spc (sepD p)++(prP ff p++T)) false=some (valP (mapR (fun x=>pf (ff x)) p),r',false):=by
   cases hs:sepD p with
   | true=>exact b9G.trans h1
   | false=>exact h1
  have hnd2:(ks++[k]++keys).Nodup:=by simpa using hnd
  have h3:=b9I pf ff R ps n keys m r (ks++[k]) (acc++[valP (mapR (fun x=>pf (ff x)) p)]) (by simpa using hl) (fun q hq=>hk q (by simp[hq])) hnd2 h.2 (by omega) (by simp at hm;omega);rw[hT]at h3
  have h4:a0A (rdV pf n) m r' false (ks++[k]) (acc++[valP (mapR (fun x=>pf (ff x)) p)])=some ((ks++[k]++keys,acc++[valP (mapR (fun x=>pf (ff x)) p)]++a4O (a4I (fun x=>pf (ff x)) ps)),r,false):=by
   rcases h2 with rfl|rfl
   ·exact h3
   ·rw[b2K];exact h3
  have hk1:=hk k (by simp)
  have hkn:k∉ks:=by
   intro hin;rw[List.nodup_append]at hnd;exact hnd.2.2 k hin k (by simp) rfl
  have hb:=a5O k [] hk1.2
  have hi:is2 (47::(encN k++(spc (sepD p)++(prP ff p++T)))) 62=false:=by
   cases hl:encN k++(spc (sepD p)++(prP ff p++T))<;>simp[is2]
  rw[e];simp only[a0A,a0Q false (show a0h ((47:UInt8).toNat:Int)=false by decide) (by decide),hi,List.tail_cons,w1,w2,w3,hb,List.nil_append];rw[if_neg (by simp),if_pos (show a0p (47::(encN k++(spc (sepD p)++(prP ff p++T)))) (· == 47)=true from rfl),if_neg (by simp[hk1.1,hkn])];simp only[hv,h4];simp[a4I,a4O]
end
open Go Go.RowKit
theorem a5e (n:Int)(w:World):Calls Tryz.prog 280 #[.int .u8 n] w fun e w'=>e=.returned (.bool (a3p n))∧w'=w:=by
 by_cases h1:n<33
 all_goals
  go_enter Tryz.func280,Tryz.ntmps280
  go_wp2
  all_goals (go_ret;exact⟨by simp_all[a3p]<;>omega,rfl⟩)
theorem a2n (a b:By):bs a++bs b=bs (a++b):=by
 apply ByteArray.ext;simp[bs]
theorem b5i (l:By)(hl:l.length≤1000000000)(w:World):Calls Tryz.prog 272 #[.string (bs l)] w fun e w'=>e=.returned (.string (bs (40::(l++[41]))))∧w'=w:=by
 have e1:(⟨#[40]⟩:ByteArray)=bs [40]:=rfl;have e2:(⟨#[41]⟩:ByteArray)=bs [41]:=rfl;have s0:=a0f l;have s1:(bs [40]).size=1:=rfl;have s2:(bs [41]).size=1:=rfl;go_enter Tryz.func272,Tryz.ntmps272
 go_wp2
 all_goals first|omega|skip
 go_ret;exact⟨by simp only[a2n];rfl,rfl⟩
theorem b4i (l:By)(hl:l.length≤1000000000)(w:World):Calls Tryz.prog 275 #[.string (bs l)] w fun e w'=>e=.returned (.string (bs (60::(l++[62]))))∧w'=w:=by
 have e1:(⟨#[60]⟩:ByteArray)=bs [60]:=rfl;have e2:(⟨#[62]⟩:ByteArray)=bs [62]:=rfl;have s0:=a0f l;have s1:(bs [60]).size=1:=rfl;have s2:(bs [62]).size=1:=rfl;go_enter Tryz.func275,Tryz.ntmps275
 go_wp2
 all_goals first|omega|skip
 go_ret;exact⟨by simp only[a2n];rfl,rfl⟩
theorem b5f (l:By)(hl:l.length≤1000000000)(w:World):Calls Tryz.prog 271 #[.string (bs l)] w fun e w'=>e=.returned (.string (bs (40::(l++[41]))))∧w'=w:=by
 go_enter Tryz.func271,Tryz.ntmps271;go_wp2_with (go_at_call 272;refine(b5i l hl _).mono ?_;rintro e w'⟨rfl,rfl⟩)
 go_ret;exact⟨rfl,rfl⟩
theorem b4h (l:By)(hl:l.length≤1000000000)(w:World):Calls Tryz.prog 274 #[.string (bs l)] w fun e w'=>e=.returned (.string (bs (60::(l++[62]))))∧w'=w:=by
 go_enter Tryz.func274,Tryz.ntmps274;go_wp2_with (go_at_call 275;refine(b4i l hl _).mono ?_;rintro e w'⟨rfl,rfl⟩)
 go_ret;exact⟨rfl,rfl⟩
end Go.Proofs.YtfkecmlmnhbmoaaGreatDoor
namespace Go.Proofs.YtfkecmlmnhbmoaaGreatDoor
mutual
def a1u (P:Nat→Prop):PV→Prop
 | .real x=>P x
 | .arr kids=>a1S P kids
 | .dict _ kids=>a1S P kids
 | _=>True
def a1S (P:Nat→Prop):List PV→Prop
 | []=>True
 | x::xs=>a1u P x∧a1S P xs
end
mutual
def a1M (P:Nat→Prop):PO→Prop
 | .real x=>P x
 | .arr kids=>a4M P kids
 | .dict _ kids=>a4M P kids
 | _=>True
def a4M (P:Nat→Prop):List PO→Prop
 | []=>True
 | x::xs=>a1M P x∧a4M P xs
end
theorem a3c {P:Nat→Prop} : ∀ {l:List PV},a1S P l→∀x∈l,a1u P x
 | [],_,x,hx=>by simp at hx
 | y::l,h,x,hx=>by
  simp only[a1S]at h;rcases List.mem_cons.1 hx with rfl|hx
  ·exact h.1
  ·exact a3c h.2 x hx
theorem a1r {P:Nat→Prop} : ∀ {l:List PO},a4M P l↔∀x∈l,a1M P x
 | []=>by simp[a4M]
 | y::l=>by simp[a4M,a1r (l:=l)]
theorem Corr.reals {nn:Nat→Prop}{P:Nat→Prop} : ∀(n:Nat) (p:PO) (x:PV),Corr nn n p x→a1u P x→a1M P p:=by
 intro n
 induction n with
 | zero=>intro p x h;simp[Corr]at h
 | succ n ih =>
  intro p x h hr
  cases p<;>cases x<;>simp only[Corr]at h<;>first|exact h.elim|skip
  all_goals simp only[a1u,a1M]at hr⊢
  ·exact h.1▸hr
  ·rw[a1r]
   intro p hp;obtain⟨i,hi⟩:=List.mem_iff_getElem?.1 hp;have hlt:=(List.getElem?_eq_some_iff.1 hi).1;have hx:=List.getElem?_eq_getElem (show i<_ by rw[←h.1];exact hlt);exact ih p _ (h.2 i p _ hi hx) (a3c hr _ (List.mem_of_getElem? hx))
  ·rw[a1r]
   intro p hp;obtain⟨i,hi⟩:=List.mem_iff_getElem?.1 hp;have hlt:=(List.getElem?_eq_some_iff.1 hi).1;obtain⟨x,hx,_,hc⟩:=h.2.2.2.2 i _ p (List.getElem?_eq_getElem (by rw[h.2.2.1];exact hlt)) hi;exact ih p x hc (a3c hr x (List.of_mem_zip hx).2)
theorem b5q (c:UInt8):upB (upB c)=upB c:=by
 have h1:=a3w c;have h2:=a3w (upB c);have:=c.toNat_lt;apply UInt8.toNat_inj.1;generalize upB (upB c)=u at *;generalize upB c=v at *
 split at h1<;>split at h2<;>omega
theorem b3u {c:UInt8}(h:a0h (c.toNat:Int)=false):a0h ((upB c).toNat:Int)=false:=by
 have h1:=a3w c;generalize upB c=v at *;unfold a0h at h⊢;simp only[Bool.or_eq_false_iff,beq_eq_false_iff_ne]at h⊢
 split at h1<;>omega
theorem a4D:∀(l:By) (i:Nat),(∀c∈hexS l i [],a0h (c.toNat:Int)=false∧upB c=c)∧(i+(hexS l i []).length)%2=0:=by
 intro l
 induction l with
 | nil =>
  intro i;simp only[hexS]
  split
  ·refine⟨fun c hc=>?_,by simp;omega⟩
   simp at hc;subst hc;exact⟨by decide,by decide⟩
  ·exact⟨fun c hc=>by simp at hc,by simp;omega⟩
 | cons c l ih =>
  intro i;simp only[hexS]
  split
  ·split
   ·rw[a2p]
    obtain⟨h1,h2⟩:=ih 0;refine⟨fun d hd=>?_,by simp;omega⟩;rcases List.mem_append.1 hd with hd|hd
    ·simp at hd;subst hd;exact⟨by decide,by decide⟩
    ·exact h1 d hd
   ·exact ih i
  ·rename_i hw
   rw[a2p];obtain⟨h1,h2⟩:=ih (i+1);refine⟨fun d hd=>?_,by simp;omega⟩;rcases List.mem_append.1 hd with hd|hd
   ·simp at hd;subst hd;exact⟨b3u (by simpa using hw),b5q c⟩
   ·exact h1 d hd
theorem b6M:∀(l:By) (i:Nat),(∀c∈l,a0h (c.toNat:Int)=false∧upB c=c)→(i+l.length)%2=0→hexS l i []=l:=by
 intro l
 induction l with
 | nil=>intro i _ h;simp only[hexS];rw[if_neg (by simp at h;omega)]
 | cons c l ih =>
  intro i h h2;obtain⟨hw,hu⟩:=h c (by simp);simp only[hexS,hw,Bool.false_eq_true,if_false];rw[a2p,ih (i+1) (fun d hd=>h d (by simp[hd])) (by simp at h2;omega),hu];rfl
theorem b4e (l:By):hexS (hexS l 0 []) 0 []=hexS l 0 []:=b6M _ _ (a4D l 0).1 (a4D l 0).2
mutual
def fxP:PO→Prop
 | .hexl s=>hexS s 0 []=s∧∀c∈s,a0h (c.toNat:Int)=false
 | .arr kids=>fxPs kids
 | .dict _ kids=>(∀p∈kids,p≠.null)∧fxPs kids
 | _=>True
def fxPs:List PO→Prop
 | []=>True
 | p::ps=>fxP p∧fxPs ps
end
theorem a4c:∀ {l:List PO},fxPs l↔∀p∈l,fxP p
 | []=>by simp[fxPs]
 | q::l=>by simp[fxPs,a4c (l:=l)]
theorem a4k {ff:Nat→By}{R:Nat→Prop} : ∀ {l:List PO},okRs ff R l↔∀p∈l,okR ff R p
 | []=>by simp[okRs]
 | q::l=>by simp[okRs,a4k (l:=l)]
theorem a2q {n:Nat} : ∀ {l:List PO},lvPs l≤n↔∀p∈l,lvP p≤n
 | []=>by simp[lvPs]
 | q::l=>by simp[lvPs,Nat.max_le,a2q (l:=l)]
mutual
def wtP:PO→Nat
 | .real _=>2
 | .ref _ _=>2
 | .lit s=>s.length+2
 | .hexl s=>s.length/2+1
 | .name s=>s.length+1
 | .arr kids=>2+wtPs kids
 | .dict keys kids=>4+(keys.map fun k=>k.length+1).sum+wtPs kids
 | _=>1
def wtPs:List PO→Nat
 | []=>0
 | p::ps=>wtP p+wtPs ps
end
theorem a5q:∀l:List PO,wtPs l=(l.map wtP).sum
 | []=>by simp[wtPs]
 | p::l=>by simp[wtPs,a5q l]
theorem a4H (l:By):(lps l).length≤l.length:=a0K false l false
theorem b9v {l:By}(h:a1q l):2≤l.length:=by
 obtain⟨d,a,h1,h2,_⟩:=h;have h4:=(a1T _ _ _ _ _ _ _ h1).2.2.2
 have h5:(a0i l).length≤l.length:=by
  cases l with
  | nil=>simp[a0i]
  | cons c l=>simp only[a0i];split<;>simp
 omega
theorem b7j {pf:By→Nat}{l:By}{x:PV}{r:By}(h:a1p pf l false=some (x,r,false))(hx:(∃y,x=.real y)∨∃a b,x=.ref a b):r.length+2≤l.length:=by
 have hws:=a0D l;have hlen:(a0c l).length+(a0k l).length=l.length:=by rw[←List.length_append,hws]
 simp only[a1p]at h
 split at h
 ·simp at h;obtain⟨rfl,_⟩:=h;rcases hx with⟨_,hx⟩|⟨_,_,hx⟩<;>cases hx
 ·split at h
  ·simp at h;obtain⟨rfl,_⟩:=h;rcases hx with⟨_,hx⟩|⟨_,_,hx⟩<;>cases hx
  ·split at h
   ·simp at h;obtain⟨rfl,_⟩:=h;rcases hx with⟨_,hx⟩|⟨_,_,hx⟩<;>cases hx
   ·split at h
    ·simp at h
    ·rename_i h0
     have h0:(numF pf (a0c l)).2.2.2=0:=by simpa using h0
     have hne:a0c l≠[]:=by intro e;rw[e]at h0;simp[numF,a0i,a0l]at h0
     have h1:=List.length_pos_iff.2 hne
     split at h
     ·rename_i h2
      simp at h;obtain⟨_,rfl,_⟩:=h;have h3:(numF pf (a0c l)).1=3:=by rcases a7g h0 with e|e;exact absurd e h2;exact e
      obtain⟨_,hok,_⟩:=a3D h0 h3;have h4:=b9v hok;omega
     ·obtain⟨_,la,c,h2,h3,h4⟩:=a4r h
      rcases h4 with⟨rfl,_⟩|⟨g,_,rfl,h5,h6,_⟩
      ·rcases hx with⟨_,hx⟩|⟨_,_,hx⟩<;>cases hx
      ·have q1:=a0K false (a0k l) false
       rw[h2]at q1;have q2:=a1A la;have q3:=a0K false (a0k la) false;rw[h5]at q3;have q4:(a0c c).length+(a0k c).length=c.length:=by rw[←List.length_append,a0D]
       rw[h6]at q4;simp at q1 q3 q4;omega
theorem b2M {pf:By→Nat}{n:Nat}{l:By}{x:PV}{r:By}(h:rdV pf n l false=some (x,r,false))(hx:(∃y,x=.real y)∨∃a b,x=.ref a b):r.length+2≤l.length:=by
 cases n with
 | zero=>simp[rdV]at h
 | succ n =>
  obtain⟨_,c,l1,hp,_,_,hc⟩:=a2M h;have hl:=a0K false l false;rw[hp]at hl;have no:∀ {y:PV},x=y→((∃z,y=.real z)∨∃a b,y=.ref a b):=fun e=>e▸hx;rcases hc with⟨_,t,_,e⟩|⟨_,l2,_,ks,vs,_,e⟩|⟨_,_,t,_,e⟩|⟨_,k,_,_,_,e⟩|⟨_,kids,_,e⟩|⟨_,h2⟩
  ·rcases no e with⟨_,hx⟩|⟨_,_,hx⟩<;>cases hx
  ·rcases no e with⟨_,hx⟩|⟨_,_,hx⟩<;>cases hx
  ·rcases no e with⟨_,hx⟩|⟨_,_,hx⟩<;>cases hx
  ·rcases no e with⟨_,hx⟩|⟨_,_,hx⟩<;>cases hx
  ·rcases no e with⟨_,hx⟩|⟨_,_,hx⟩<;>cases hx
  ·have:=b7j h2 hx
   simp at hl this;omega
theorem b4Q {pf:By→Nat}{n:Nat}{l:By}{k:By}{r:By}(h:rdV pf n l false=some (.name k,r,false)):k.length+1+r.length≤l.length:=by
 cases n with
 | zero=>simp[rdV]at h
 | succ n =>
  obtain⟨_,c,l1,hp,_,_,hc⟩:=a2M h;have hl:=a0K false l false;rw[hp]at hl;rcases hc with⟨_,t,_,e⟩|⟨_,l2,_,ks,vs,_,e⟩|⟨_,_,t,_,e⟩|⟨_,k',hk,rfl,_,e⟩|⟨_,kids,_,e⟩|⟨_,h2⟩
  ·cases e
  ·cases e
  ·cases e
  ·cases e
   have h1:=a3z _ _ _ hk;have h2:(a0c l1).length+(a0k l1).length=l1.length:=by rw[←List.length_append,a0D]
   simp at h1 hl;omega
  ·cases e
  ·exfalso
   simp only[a1p]at h2
   repeat' split at h2
   all_goals first
    | (simp at h2;done)
    | (rcases (a4r h2).2 with⟨_,_,_,_,⟨e,_⟩|⟨_,e,_⟩⟩<;>cases e)
def SAll (ff:Nat→By)(R:Nat→Prop)(n:Nat)(p:PO):Prop:=okR ff R p∧fxP p∧lvP p≤n
theorem SAll.arr {ff:Nat→By}{R:Nat→Prop}{n:Nat}{ps:List PO}(h:∀p∈ps,SAll ff R n p):SAll ff R (n+1) (.arr ps):=by
 refine⟨?_,?_,?_⟩
 ·simp only[okR];exact a4k.2 fun p hp=>(h p hp).1
 ·simp only[fxP];exact a4c.2 fun p hp=>(h p hp).2.1
 ·simp only[lvP];have:=a2q.2 fun p hp=>(h p hp).2.2;omega
theorem SAll.dict {ff:Nat→By}{R:Nat→Prop}{n:Nat}{ks:List By}{ps:List PO}(hl:ks.length=ps.length)(hnd:ks.Nodup)(hk:∀k∈ks,35∉k∧∀c∈k,(c.toNat:Int)≠0)(hn:∀p∈ps,p≠.null)(h:∀p∈ps,SAll ff R n p):SAll ff R (n+1) (.dict ks ps):=by
 refine⟨?_,?_,?_⟩
 ·simp only[okR];exact⟨hl,hnd,hk,a4k.2 fun p hp=>(h p hp).1⟩
 ·simp only[fxP];exact⟨hn,a4c.2 fun p hp=>(h p hp).2.1⟩
 ·simp only[lvP];have:=a2q.2 fun p hp=>(h p hp).2.2;omega
theorem a6O {α:Type}(f:α→Nat)(b:α→Bool):∀l:List α,((l.filter b).map f).sum≤(l.map f).sum
 | []=>by simp
 | x::l=>by
  have:=a6O f b l;rw[List.filter_cons]
  split<;>simp<;>omega
theorem b3f {α:Type}(f g:α→Nat):∀l:List α,(l.map f).sum+(l.map g).sum=(l.map fun x=>f x+g x).sum
 | []=>by simp
 | x::l=>by have:=b3f f g l;simp;omega
theorem b2f {ks:List By}{xs:List PV}{q:By×PV→Bool}(h:ks.Nodup):(((ks.zip xs).filter q).map (·.1)).Nodup:=by
 have h1:(((ks.zip xs).filter q).map (·.1)).Sublist ((ks.zip xs).map (·.1)):=List.Sublist.map _ List.filter_sublist
 have h2:((ks.zip xs).map (·.1)).Sublist ks:=by
  clear h1 h
  induction ks generalizing xs with
  | nil=>simp
  | cons k ks ih =>
   cases xs with
   | nil=>simp
   | cons x xs=>simpa using ih
 exact(h1.trans h2).nodup h
theorem b7R {pf:By→Nat}{nn:Nat→Prop}{ff:Nat→By}{R:Nat→Prop} : ∀(n:Nat) (l:By) (p:PO) (r:By),SpF pf nn n l p r→a1M (fun y=>a1q (ff y)∧R y) p→SAll ff R n p∧wtP p+r.length≤l.length:=by
 intro n
 induction n with
 | zero=>intro l p r ⟨x,h,_⟩;simp[rdV]at h
 | succ n ih =>
  intro l p r ⟨x,hv,hC,hS⟩ hR;have h0:=a2z _ _ _ _ _ _ _ hv
  have hA:∀(ps:List PO) (l l':By),SpA (SpF pf nn n) ps l l'→(∀p∈ps,a1M (fun y=>a1q (ff y)∧R y) p)→(∀p∈ps,SAll ff R n p)∧wtPs ps+(lps l').length≤(lps l).length:=by
   intro ps
   induction ps with
   | nil=>intro l l' h _;exact⟨by simp,by simp only[wtPs];rw[show lps l=lps l' from h];omega⟩
   | cons q ps ih2 =>
    intro l l' h hr;obtain⟨l2,h1,h2⟩:=h;obtain⟨g1,g2⟩:=ih _ _ _ h1 (hr q (by simp));obtain⟨g3,g4⟩:=ih2 _ _ h2 (fun p hp=>hr p (by simp[hp]));have:=a4H l2;refine⟨fun p hp=>?_,by simp only[wtPs];omega⟩;rcases List.mem_cons.1 hp with rfl|hp
    ·exact g1
    ·exact g3 p hp
  have hE:∀(es:List (By×PO)) (l l':By),SpE (SpF pf nn n) es l l'→(∀e∈es,a1M (fun y=>a1q (ff y)∧R y) e.2)→(∀e∈es,(35∉e.1∧∀c∈e.1,(c.toNat:Int)≠0)∧SAll ff R n e.2)∧(es.map fun e=>e.1.length+1+wtP e.2).sum+(lps l').length≤(lps l).length:=by
   intro es
   induction es with
   | nil=>intro l l' h _;exact⟨by simp,by rw[show lps l=lps l' from h];simp⟩
   | cons e es ih2 =>
    intro l l' h hr;obtain⟨l1,l2,h1,h2,h3,h4,h5⟩:=h;obtain⟨g1,g2⟩:=ih _ _ _ h4 (hr e (by simp));obtain⟨g3,g4⟩:=ih2 _ _ h5 (fun p hp=>hr p (by simp[hp]));have q1:=a4H l2;have q2:=a4H (a0k l1);have q3:=a3z _ _ _ h2;have q4:(a0c l1).length+(a0k l1).length=l1.length:=by rw[←List.length_append,a0D]
    rw[h1];simp only[List.length_nil]at q3;refine⟨fun p hp=>?_,by simp only[List.map_cons,List.sum_cons,List.length_cons];omega⟩;rcases List.mem_cons.1 hp with rfl|hp
    ·exact⟨h3,g1⟩
    ·exact g3 p hp
  cases p with
  | null=>exact⟨⟨by simp[okR],by simp[fxP],by simp[lvP]⟩,by simp only[wtP];omega⟩
  | bool b=>exact⟨⟨by simp[okR],by simp[fxP],by simp[lvP]⟩,by simp only[wtP];omega⟩
  | int k =>
   cases x<;>simp only[Corr]at hC<;>try exact hC.elim
   exact⟨⟨by simp only[okR];exact hC.2,by simp[fxP],by simp[lvP]⟩,by simp only[wtP];omega⟩
  | real y =>
   cases x<;>simp only[Corr]at hC<;>try exact hC.elim
   have:=b2M hv (.inl ⟨_,rfl⟩);exact⟨⟨by simp only[okR,a1M]at hR⊢;exact hR,by simp[fxP],by simp[lvP]⟩,by simp only[wtP];omega⟩
  | ref a b =>
   cases x<;>simp only[Corr]at hC<;>try exact hC.elim
   have:=b2M hv (.inr ⟨_,_,rfl⟩);exact⟨⟨by simp only[okR];exact hC.2.2,by simp[fxP],by simp[lvP]⟩,by simp only[wtP];omega⟩
  | name s =>
   cases x<;>simp only[Corr]at hC<;>try exact hC.elim
   obtain⟨rfl,h2⟩:=hC;have:=b4Q hv;exact⟨⟨by simp only[okR];exact h2,by simp[fxP],by simp[lvP]⟩,by simp only[wtP];omega⟩
  | lit s =>
   cases x<;>simp only[Corr]at hC<;>try exact hC.elim
   have hS:l=40::(s++41::r):=hS;exact⟨⟨by simp only[okR];exact⟨_,hC⟩,by simp[fxP],by simp[lvP]⟩,by rw[hS];simp only[wtP,List.length_cons,List.length_append];omega⟩
  | hexl s =>
   cases x<;>simp only[Corr]at hC<;>try exact hC.elim
   obtain⟨a,m,c,e,ha,hc,rfl⟩:=hS;have h1:=a9C m 0;exact⟨⟨by simp only[okR];exact hC.1,by simp only[fxP];exact⟨b4e m,fun c hc=>((a4D m 0).1 c hc).1⟩,by simp[lvP]⟩,by rw[e];simp only[wtP,List.length_cons,List.length_append];omega⟩
  | arr ps =>
   obtain⟨l1,rfl,hS⟩:=hS;simp only[a1M]at hR;obtain⟨g1,g2⟩:=hA ps l1 _ hS (a1r.1 hR);have q1:=a4H l1;have q2:lps (93::r)=93::r:=a1K (a0Q false (show a0h ((93:UInt8).toNat:Int)=false by decide) (by decide));rw[q2]at g2;exact⟨SAll.arr g1,by simp only[wtP,List.length_cons]at g2⊢;omega⟩
  | dict ks ps =>
   obtain⟨l1,rfl,es,hS,h1,h2⟩:=hS;simp only[a1M]at hR;have hR:=a1r.1 hR
   have hre:∀e∈es,a1M (fun y=>a1q (ff y)∧R y) e.2:=fun e he=>by
    cases hn:e.2.nul with
    | true=>cases e2:e.2<;>simp[e2,PO.nul]at hn;simp[a1M]
    | false=>exact hR e.2 (by rw[h2];exact List.mem_map.2 ⟨e,List.mem_filter.2 ⟨he,by simp[hn]⟩,rfl⟩)
   obtain⟨g1,g2⟩:=hE es l1 _ hS hre;have q1:=a4H l1;have q2:lps (62::62::r)=62::62::r:=a1K (a0Q false (show a0h ((62:UInt8).toNat:Int)=false by decide) (by decide));rw[q2]at g2
   have hnd:ks.Nodup:=by
    cases x<;>simp only[Corr]at hC<;>try exact hC.elim
    rw[hC.2.2.2.1];exact b2f hC.1
   have w1:=a6O (fun e:By×PO=>e.1.length+1+wtP e.2) (fun e=>!e.2.nul) es;rw[←b3f (fun e:By×PO=>e.1.length+1) (fun e=>wtP e.2)]at w1;have w2:(ks.map fun k=>k.length+1).sum=((es.filter fun e=>!e.2.nul).map fun e=>e.1.length+1).sum:=by rw[h1,List.map_map];rfl
   have w3:wtPs ps=((es.filter fun e=>!e.2.nul).map fun e=>wtP e.2).sum:=by rw[a5q,h2,List.map_map];rfl
   refine⟨SAll.dict (by rw[h1,h2,List.length_map,List.length_map]) hnd (fun k hk=>?_) (fun p hp=>?_) (fun p hp=>?_),by simp only[wtP,List.length_cons]at g2⊢;omega⟩
   ·rw[h1]at hk
    obtain⟨e,he,rfl⟩:=List.mem_map.1 hk;exact(g1 e (List.mem_filter.1 he).1).1
   ·rw[h2]at hp
    obtain⟨e,he,rfl⟩:=List.mem_map.1 hp;intro e2;have:=(List.mem_filter.1 he).2;rw[e2]at this;simp[PO.nul]at this
   ·rw[h2]at hp
    obtain⟨e,he,rfl⟩:=List.mem_map.1 hp;exact(g1 e (List.mem_filter.1 he).1).2
end Go.Proofs.YtfkecmlmnhbmoaaGreatDoor
