/- Parts F4 P3 P4 Shelf F11 P5 P6. -/
import Derived.Shelf.Strings.OnBuilder
import Derived.Shelf.Small.Wraps
import Derived.Shelf.Strings.BuilderRune
import Derived.Shelf.Utf8.AppendRune
import Derived.Shelf.Strconv.Itoa3
import Derived.Shelf.Strconv.AtoiErr
import Derived.Shelf.Strconv.ErrVarAll
import Derived.Shelf.Strconv.ParseInt10All
import Derived.Shelf.Sort.Plain
import Derived.Shelf.GgClosure.StringsRunes
import Derived.Shelf.Unicode.Decode
import Derived.Shelf.Bits.Mul64
import Derived.Shelf.Strings.FuncGrows
import Derived.Shelf.Slices.In.SortNone2
import Derived.Shelf.Hex.DecodeOwns
import Derived.Shelf.Hex.More
import Derived.Test.YtfkecmlmnhbmoaaGreatDoorW5
set_option linter.unusedVariables false
set_option linter.unusedSimpArgs false
set_option maxRecDepth 100000
set_option maxHeartbeats 40000000
namespace Go.Proofs.YtfkecmlmnhbmoaaGreatDoor
open Go Go.RowKit
def dv (l:By):Nat:=l.foldl (fun n c=>10*n+(c.toNat-48)) 0
def isDs (l:By):Prop:=∀c∈l,48≤c.toNat∧c.toNat≤57
theorem dv_snoc (l:By)(c:UInt8):dv (l++[c])=10*dv l+(c.toNat-48):=by simp[dv]
theorem isDs_snoc {l:By}{c:UInt8}(h:isDs l)(h1:48≤c.toNat)(h2:c.toNat≤57):isDs (l++[c]):=by
 intro x hx;rcases List.mem_append.1 hx with h3|h3
 ·exact h x h3
 ·simp at h3;subst h3;exact⟨h1,h2⟩
theorem take_snocD {A:By}{r:Nat}(h:r<A.length):A.take (r+1)=A.take r++[A.getD r 0]:=by
 rw[List.take_succ_eq_append_getElem h];simp[h]
theorem dv_take {A:By}{r:Nat}(h:r<A.length):dv (A.take (r+1))=10*dv (A.take r)+((A.getD r 0).toNat-48):=by
 rw[take_snocD h,dv_snoc]
theorem isDs_at {A:By}{n r:Nat}(h:isDs (A.take n))(hr:r<n)(h2:n≤A.length):48≤(A.getD r 0).toNat∧(A.getD r 0).toNat≤57:=by
 have hl:r<A.length:=by omega
 refine h _ ?_;rw[List.mem_take_iff_getElem];exact⟨r,by omega,by simp[hl]⟩
theorem isDs_take {A:By}{n m:Nat}(h:isDs (A.take n))(hm:m≤n):isDs (A.take m):=by
 intro x hx;exact h x (by rw[List.mem_take_iff_getElem]at hx⊢;obtain⟨i,hi,e⟩:=hx;exact⟨i,by omega,e⟩)
theorem dv_lt:∀(n:Nat) (A:By),n≤A.length→isDs (A.take n)→dv (A.take n)<10^n:=by
 intro n
 induction n with
 | zero=>intro A _ _;simp[dv]
 | succ n ih =>
  intro A h hd;have h1:=ih A (by omega) (isDs_take hd (by omega));have h2:=isDs_at hd (r:=n) (by omega) h;rw[dv_take (by omega),Nat.pow_succ];omega
def pd (A:By)(nd r:Nat):Nat:=if r≤nd then dv (A.take r) else dv (A.take nd)*10^(r-nd)
theorem pd_zero (A:By)(nd:Nat):pd A nd 0=0:=by simp[pd,dv]
theorem pd_nd (A:By)(nd:Nat):pd A nd nd=dv (A.take nd):=by simp[pd]
theorem pd_lt {A:By}{nd r:Nat}(h:r<nd)(h2:nd≤A.length):pd A nd (r+1)=10*pd A nd r+((A.getD r 0).toNat-48):=by
 unfold pd;rw[if_pos (by omega),if_pos (by omega),dv_take (by omega)]
theorem pd_ge {A:By}{nd r:Nat}(h:nd≤r):pd A nd (r+1)=10*pd A nd r:=by
 unfold pd;rw[if_neg (by omega)]
 by_cases e:r=nd
 ·subst e;simp;omega
 ·rw[if_neg (by omega),show r+1-nd=(r-nd)+1 by omega,Nat.pow_succ,←Nat.mul_assoc];omega
theorem pd_step {A:By}{nd r:Nat}(h2:nd≤A.length)(hd:isDs (A.take nd)):10*pd A nd r≤pd A nd (r+1)∧pd A nd (r+1)≤10*pd A nd r+9:=by
 by_cases h:r<nd
 ·rw[pd_lt h h2];have:=isDs_at hd h h2;omega
 ·rw[pd_ge (by omega)];omega
theorem pd_add {A:By}{nd:Nat}(h2:nd≤A.length)(hd:isDs (A.take nd))(r:Nat):∀(w:Nat),10^w*pd A nd r≤pd A nd (r+w)∧pd A nd (r+w)<10^w*(pd A nd r+1):=by
 intro w
 induction w with
 | zero=>simp
 | succ w ih =>
  have h:=pd_step (r:=r+w) h2 hd;rw[show r+(w+1)=r+w+1 by omega,Nat.pow_succ];have e1:10^w*10*pd A nd r=10*(10^w*pd A nd r):=by rw[Nat.mul_comm (10^w) 10,Nat.mul_assoc]
  have e2:10^w*10*(pd A nd r+1)=10*(10^w*(pd A nd r+1)):=by rw[Nat.mul_comm (10^w) 10,Nat.mul_assoc]
  rw[e1,e2];omega
theorem strip_mul10:∀(j n:Nat),n≠0→strip (n*10^j)=strip n∧numD (n*10^j)=numD n+j:=by
 intro j
 induction j with
 | zero=>intro n _;simp
 | succ j ih =>
  intro n h;have h1:=ih n h;have h2:n*10^(j+1)=n*10^j*10:=by rw[Nat.pow_succ,Nat.mul_assoc]
  have h3:n*10^j≠0:=Nat.mul_ne_zero h (Nat.pos_iff_ne_zero.1 (pow10_pos j));rw[h2];refine⟨?_,?_⟩
  ·rw[strip_step (by omega) (by omega),Nat.mul_div_cancel _ (by decide)];exact h1.1
  ·rw[numD_pos (by omega),Nat.mul_div_cancel _ (by decide),h1.2];omega
theorem rsh_final {A:By}{nd k r0 w Q:Nat}(dp:Int)(h2:nd≤A.length)(hd:isDs (A.take nd))(hN:numD (dv (A.take nd))=nd)(hN0:dv (A.take nd)≠0)(hr0:1≤r0)(hlo:2^k≤pd A nd r0)(hhi:pd A nd (r0-1)<2^k)(hr:nd≤r0+w)(hw:1≤w)(hQ:pd A nd (r0+w)=10*2^k*Q) :
  Q≠0∧numD Q=w∧strip Q=rsN k (dv (A.take nd))∧dp-(r0-1:Nat)=rsP k (dv (A.take nd)) dp:=by
 have hp2:0<2^k:=Nat.pow_pos (by decide);have hb:=pd_add h2 hd r0 w;have hs:=pd_step (r:=r0-1) h2 hd;rw[show r0-1+1=r0 by omega]at hs
 have hw10:10^w=10*10^(w-1):=by
  conv=>lhs;rw[show w=(w-1)+1 by omega,Nat.pow_succ]
  omega
 have hlo2:10^(w-1)≤Q:=by
  have h1:10^w*2^k≤10*2^k*Q:=by rw[←hQ];exact Nat.le_trans (Nat.mul_le_mul_left _ hlo) hb.1
  rw[hw10,show 10*10^(w-1)*2^k=10*2^k*10^(w-1) by rw[Nat.mul_assoc,Nat.mul_comm (10^(w-1)),←Nat.mul_assoc]]at h1;exact Nat.le_of_mul_le_mul_left h1 (by omega)
 have hhi2:Q<10^w:=by
  have h1:10*2^k*Q<10^w*(10*2^k):=by
   rw[←hQ];exact Nat.lt_of_lt_of_le hb.2 (Nat.mul_le_mul_left _ (by omega))
  rw[Nat.mul_comm (10^w)]at h1;exact Nat.lt_of_mul_lt_mul_left h1
 have hQ0:Q≠0:=by have:=pow10_pos (w-1);omega
 have hQD:numD Q=w:=by
  have:=numD_eq (n:=Q) (m:=w-1) hlo2 (by rw[show w-1+1=w by omega];exact hhi2);omega
 obtain⟨j,hj⟩:∃j,r0+w=nd+j:=⟨r0+w-nd,by omega⟩
 have hP:pd A nd (nd+j)=dv (A.take nd)*10^j:=by
  unfold pd
  by_cases e:j=0
  ·subst e;simp
  ·rw[if_neg (by omega),show nd+j-nd=j by omega]
 rw[hj,hP]at hQ;generalize dv (A.take nd)=N at *
 have e5:N*5^k*10^j=Q*10^(k+1):=by
  rw[show N*5^k*10^j=N*10^j*5^k by rw[Nat.mul_assoc,Nat.mul_comm (5^k),←Nat.mul_assoc],hQ];rw[show (10:Nat)^(k+1)=10*(2^k*5^k) by rw[←Nat.mul_pow,Nat.pow_succ,Nat.mul_comm]];rw[Nat.mul_comm Q,Nat.mul_assoc 10 (2^k) Q,Nat.mul_assoc 10,Nat.mul_assoc 10];congr 1;rw[Nat.mul_assoc,Nat.mul_assoc,Nat.mul_comm Q]
 have hN5:N*5^k≠0:=Nat.mul_ne_zero hN0 (pow5_ne k);have s1:=strip_mul10 j _ hN5;have s2:=strip_mul10 (k+1) _ hQ0;rw[e5]at s1;refine⟨hQ0,hQD,?_,?_⟩
 ·unfold rsN;rw[←s1.1,←s2.1]
 ·unfold rsP;omega
theorem trimN_dv:∀(n:Nat) (A:By),n≤A.length→isDs (A.take n)→dv (A.take n)≠0→numD (dv (A.take n))=n→trimN A n=numD (strip (dv (A.take n)))∧dv (A.take (trimN A n))=strip (dv (A.take n)):=by
 intro n
 induction n with
 | zero=>intro A _ _ h;simp[dv]at h
 | succ n ih =>
  intro A hl hd h0 hn;have h1:=isDs_at hd (r:=n) (by omega) hl;have h2:=dv_take (A:=A) (r:=n) (by omega);simp only[trimN]
  by_cases h48:(A.getD n 0).toNat=48
  ·rw[if_pos h48]
   have h3:dv (A.take (n+1))=dv (A.take n)*10:=by omega
   have h4:dv (A.take n)≠0:=by omega
   have h5:=strip_mul10 1 _ h4;simp only[Nat.pow_one]at h5;rw[h3]at hn⊢;rw[h5.1];exact ih A (by omega) (isDs_take hd (by omega)) h4 (by omega)
  ·rw[if_neg h48,strip_stop (by omega)]
   exact⟨hn.symm,rfl⟩
def DecN (w:World)(b:Nat)(N:Nat)(dp:Int)(neg tr:Bool):Prop :=
 numD N≤800∧∃A,DecAt w b A (numD N) dp neg tr∧isDs (A.take (numD N))∧dv (A.take (numD N))=N
end Go.Proofs.YtfkecmlmnhbmoaaGreatDoor
namespace Go.Proofs.YtfkecmlmnhbmoaaGreatDoor
theorem hexVal_range (n:Int):hexVal n=-1∨0≤hexVal n∧hexVal n≤15:=by
 unfold hexVal
 repeat' split
 all_goals omega
def ub (n:Int):UInt8:=UInt8.ofNat n.toNat
theorem ub_of {n:Int}(h0:0≤n)(h1:n≤255):n=((ub n).toNat:Int):=byte_of n h0 h1
theorem ub_mod {n:Int}(h0:0≤n)(h1:n≤255):n%256=((ub n).toNat:Int):=by rw[Int.emod_eq_of_lt h0 (by omega)];exact byte_of n h0 h1
def hexF:By→Bool→Int→By→Bool→Int×By×By×Bool
 | [],_,_,_,o=>(1,[],[],o)
 | c::l,od,half,out,o =>
  if (c.toNat:Int)==62 then (0,if od then out++[ub (half*16)] else out,l,o)
  else if isWhite (c.toNat:Int) then hexF l od half out (o||od||(c.toNat:Int)==0)
  else if hexVal (c.toNat:Int)<0 then (2,[],l,o)
  else if od then hexF l false half (out++[ub (half*16+hexVal (c.toNat:Int))]) o
  else hexF l true (hexVal (c.toNat:Int)) out o
def nameB:By→By→Option By
 | [],out=>some out
 | c :: l, out =>
  if (c.toNat:Int) != 35 then nameB l (out++[c])
  else match l with
   | a::b::l'=>if hexVal (a.toNat:Int)<0∨hexVal (b.toNat:Int)<0 then none
    else if 16*hexVal (a.toNat:Int)+hexVal (b.toNat:Int)==0 then none
    else nameB l' (out++[ub (16*hexVal (a.toNat:Int)+hexVal (b.toNat:Int))])
   | _=>none
theorem nameB_plain {c:UInt8}{l out:By}(h:((c.toNat:Int) != 35)=true):nameB (c::l) out=nameB l (out++[c]):=by
 cases l with
 | nil=>simp[nameB,h]
 | cons a l=>cases l<;>simp[nameB,h]
theorem nameB_1 {c:UInt8}{out:By}(h:((c.toNat:Int) != 35)=false):nameB [c] out=none:=by simp[nameB,h]
theorem nameB_2 {c a:UInt8}{out:By}(h:((c.toNat:Int) != 35)=false):nameB [c,a] out=none:=by simp[nameB,h]
theorem nameB_3 {c a b:UInt8}{l out:By}(h:((c.toNat:Int) != 35)=false):nameB (c::a::b::l) out=(if hexVal (a.toNat:Int)<0∨hexVal (b.toNat:Int)<0 then none
  else if 16*hexVal (a.toNat:Int)+hexVal (b.toNat:Int)==0 then none else nameB l (out++[ub (16*hexVal (a.toNat:Int)+hexVal (b.toNat:Int))])):=by
 rw[nameB];simp[h]
def numScan:By→Int→Int→Int→Option (Int×Int×Int)
 | [],d,p,a=>some (d,p,a)
 | c::l,d,p,a =>
  if isDig (c.toNat:Int) then numScan l (d+1) p (if p==0 then a+1 else a)
  else if (c.toNat:Int)==46 then numScan l d (p+1) a
  else none
def numStrip:By→By
 | []=>[]
 | c::l=>if (c.toNat:Int)==43∨(c.toNat:Int)==45 then l else c::l
def numOk (l:By):Prop:=∃d a,numScan (numStrip l) 0 0 0=some (d,1,a)∧1≤d∧d≤60∧a≤14
def numF (pf:By→Nat)(l:By):Int×Int×Nat×Int :=
 match numScan (numStrip l) 0 0 0 with
 | none=>(0,0,0,1)
 | some (d,p,a) =>
  if d==0∨1<p then (0,0,0,1)
  else if 14<a∨60<d then (0,0,0,2)
  else if p==1 then (3,0,pf l,0)
  else match Lib.atoiAll l with
   | .ok n=>if 2147483647<n∨n < -2147483648 then (0,0,0,2) else (2,n,0,0)
   | _=>(0,0,0,2)
end Go.Proofs.YtfkecmlmnhbmoaaGreatDoor
namespace Go.Proofs
open Go.Shelf
def Tryz.lays169_ren:Go.Shelf.Ren:=⟨fun|169=>219|n=>n,fun|70=>294|9=>9|0=>0|72=>296|37=>84|127=>232|3=>3|5=>5|n=>n,fun|n=>n⟩
theorem Tryz.lays169:Go.Proofs.Lays.n169 Tryz.prog Tryz.lays169_ren:={
 mixed:=by kernel_rfl
 f169:=Tryz.func219.trans (congrArg some (by kernel_rfl))
 t0:=Tryz.underlying0
 a0:=Tryz.isAgg0
 z0:=Tryz.sizeOf0
 v0:=Tryz.zeroValue0
 t3:=Tryz.underlying3
 a3:=Tryz.isAgg3
 z3:=Tryz.sizeOf3
 v3:=Tryz.zeroValue3
 t9:=Tryz.underlying9
 a9:=Tryz.isAgg9
 z9:=Tryz.sizeOf9
 v9:=Tryz.zeroValue9
 t37:=Tryz.underlying84
 a37:=Tryz.isAgg84
 z37:=Tryz.sizeOf84
 v37:=Tryz.zeroValue84
 t70:=Tryz.underlying294
 a70:=Tryz.isAgg294
 z70:=Tryz.sizeOf294
 v70:=Tryz.zeroValue294
 t72:=Tryz.underlying296
 a72:=Tryz.isAgg296
 z72:=Tryz.sizeOf296
 v72:=Tryz.zeroValue296
 t127:=Tryz.underlying232
 a127:=Tryz.isAgg232
 z127:=Tryz.sizeOf232
 v127:=Tryz.zeroValue232 }
theorem Tryz.Builder_Extra_169:Builder.Extra Tryz.prog Tryz.lays169_ren:={
 sizeBuilder:=by kernel_rfl
 liesBuilder:=by kernel_rfl
 t5:=Tryz.underlying5
 a5:=Tryz.isAgg5
 z5:=Tryz.sizeOf5
 v5:=Tryz.zeroValue5
 infoByte:=by kernel_rfl
 cellsByte:=by kernel_rfl
 sizeByte:=by kernel_rfl
 neB5:=by decide }
open Go.RowKit in
theorem Tryz.Builder_String_any (B b:Nat)(l:List UInt8)(w:World)(h:Lib.IsBuilder 296 5 B b (Lib.byteCells l) w)(hBw:B≤w.heap.size) :
  Calls Tryz.prog 219 #[.pointer (some ⟨b,0,none⟩)] w fun e w'=>e=.returned (.string ⟨l.toArray⟩)∧Below B w w':=Any.Builder_String_any Tryz.lays169 Tryz.Builder_Extra_169 B b l w h hBw
def Tryz.lays156_ren:Go.Shelf.Ren:=⟨fun|156=>289|165=>290|166=>217|169=>219|240=>230|241=>291|276=>239|277=>292|n=>n,fun|31=>23|9=>9|3=>3|4=>4|0=>0|20=>20|72=>296|76=>118|70=>294|37=>84|75=>92|127=>232|164=>314|5=>5|80=>54|n=>n,fun|n=>n⟩
theorem Tryz.lays156:Go.Proofs.Lays.n156 Tryz.prog Tryz.lays156_ren:={
 mixed:=by kernel_rfl
 f156:=Tryz.func289.trans (congrArg some (by kernel_rfl))
 f165:=Tryz.func290.trans (congrArg some (by kernel_rfl))
 f166:=Tryz.func217.trans (congrArg some (by kernel_rfl))
 f169:=Tryz.func219.trans (congrArg some (by kernel_rfl))
 f240:=Tryz.func230.trans (congrArg some (by kernel_rfl))
 f241:=Tryz.func291.trans (congrArg some (by kernel_rfl))
 f276:=Tryz.func239.trans (congrArg some (by kernel_rfl))
 f277:=Tryz.func292.trans (congrArg some (by kernel_rfl))
 t0:=Tryz.underlying0
 a0:=Tryz.isAgg0
 z0:=Tryz.sizeOf0
 v0:=Tryz.zeroValue0
 t3:=Tryz.underlying3
 a3:=Tryz.isAgg3
 z3:=Tryz.sizeOf3
 v3:=Tryz.zeroValue3
 t4:=Tryz.underlying4
 a4:=Tryz.isAgg4
 z4:=Tryz.sizeOf4
 v4:=Tryz.zeroValue4
 t9:=Tryz.underlying9
 a9:=Tryz.isAgg9
 z9:=Tryz.sizeOf9
 v9:=Tryz.zeroValue9
 t20:=Tryz.underlying20
 a20:=Tryz.isAgg20
 z20:=Tryz.sizeOf20
 v20:=Tryz.zeroValue20
 t31:=Tryz.underlying23
 a31:=Tryz.isAgg23
 z31:=Tryz.sizeOf23
 v31:=Tryz.zeroValue23
 t37:=Tryz.underlying84
 a37:=Tryz.isAgg84
 z37:=Tryz.sizeOf84
 v37:=Tryz.zeroValue84
 t70:=Tryz.underlying294
 a70:=Tryz.isAgg294
 z70:=Tryz.sizeOf294
 v70:=Tryz.zeroValue294
 t72:=Tryz.underlying296
 a72:=Tryz.isAgg296
 z72:=Tryz.sizeOf296
 v72:=Tryz.zeroValue296
 t75:=Tryz.underlying92
 a75:=Tryz.isAgg92
 z75:=Tryz.sizeOf92
 v75:=Tryz.zeroValue92
 t76:=Tryz.underlying118
 a76:=Tryz.isAgg118
 z76:=Tryz.sizeOf118
 v76:=Tryz.zeroValue118
 t127:=Tryz.underlying232
 a127:=Tryz.isAgg232
 z127:=Tryz.sizeOf232
 v127:=Tryz.zeroValue232
 t164:=Tryz.underlying314
 a164:=Tryz.isAgg314
 z164:=Tryz.sizeOf314
 v164:=Tryz.zeroValue314 }
theorem Tryz.Builder_Extra_156:Builder.Extra Tryz.prog Tryz.lays156_ren:={
 sizeBuilder:=by kernel_rfl
 liesBuilder:=by kernel_rfl
 t5:=Tryz.underlying5
 a5:=Tryz.isAgg5
 z5:=Tryz.sizeOf5
 v5:=Tryz.zeroValue5
 infoByte:=by kernel_rfl
 cellsByte:=by kernel_rfl
 sizeByte:=by kernel_rfl
 neB5:=by decide }
open Go.RowKit in
theorem Tryz.strings_Join_none (a:Option Addr)(c:Nat)(sep:ByteArray)(w:World) :
  Calls Tryz.prog 289 #[.slice a 0 c,.string sep] w fun e w'=>e=.returned (.string ⟨#[]⟩)∧w'=w:=Any.strings_Join_none Tryz.lays156 Tryz.Builder_Extra_156 a c sep w
open Go.RowKit in
theorem Tryz.strings_Join (bk o c:Nat)(xs:List ByteArray)(sep:ByteArray)(w:World)(hcells:∀(j:Nat) x,xs[j]?=some x→w.cell? ⟨bk,o+j,none⟩=some (.string x))(hbk:bk<w.heap.size)(hN:xs.length≤140737488355328)(hcap:xs.length≤c)(hlen:(Lib.join (xs.map (·.data.toList)) sep.data.toList).length≤140737488355328) :
  Calls Tryz.prog 289 #[.slice (some ⟨bk,o,none⟩) xs.length c,.string sep] w fun e w'=>e=.returned (.string ⟨(Lib.join (xs.map (·.data.toList)) sep.data.toList).toArray⟩)∧Below w.heap.size w w':=Any.strings_Join Tryz.lays156 Tryz.Builder_Extra_156 bk o c xs sep w hcells hbk hN hcap hlen
def Tryz.lays121_ren:Go.Shelf.Ren:=⟨fun|121=>262|214=>263|n=>n,fun|4=>4|9=>9|n=>n,fun|n=>n⟩
theorem Tryz.lays121:Go.Proofs.Lays.n121 Tryz.prog Tryz.lays121_ren:={
 mixed:=by kernel_rfl
 f121:=Tryz.func262.trans (congrArg some (by kernel_rfl))
 f214:=Tryz.func263.trans (congrArg some (by kernel_rfl))
 t4:=Tryz.underlying4
 a4:=Tryz.isAgg4
 z4:=Tryz.sizeOf4
 v4:=Tryz.zeroValue4
 t9:=Tryz.underlying9
 a9:=Tryz.isAgg9
 z9:=Tryz.sizeOf9
 v9:=Tryz.zeroValue9 }
open Go.RowKit in
theorem Tryz.strconv_FormatBool (b:Bool)(w:World) :
  Calls Tryz.prog 262 #[.bool b] w fun e w'=>e=.returned (.string ⟨(Lib.formatBool b).toArray⟩)∧w'=w:=Any.strconv_FormatBool Tryz.lays121 b w
def Tryz.lays129_ren:Go.Shelf.Ren:=⟨fun|129=>116|n=>n,fun|53=>171|3=>3|4=>4|46=>197|5=>5|9=>9|n=>n,fun|n=>n⟩
theorem Tryz.lays129:Go.Proofs.Lays.n129 Tryz.prog Tryz.lays129_ren:={
 mixed:=by kernel_rfl
 f129:=Tryz.func116.trans (congrArg some (by kernel_rfl))
 t3:=Tryz.underlying3
 a3:=Tryz.isAgg3
 z3:=Tryz.sizeOf3
 v3:=Tryz.zeroValue3
 t4:=Tryz.underlying4
 a4:=Tryz.isAgg4
 z4:=Tryz.sizeOf4
 v4:=Tryz.zeroValue4
 t5:=Tryz.underlying5
 a5:=Tryz.isAgg5
 z5:=Tryz.sizeOf5
 v5:=Tryz.zeroValue5
 t9:=Tryz.underlying9
 a9:=Tryz.isAgg9
 z9:=Tryz.sizeOf9
 v9:=Tryz.zeroValue9
 t46:=Tryz.underlying197
 a46:=Tryz.isAgg197
 z46:=Tryz.sizeOf197
 v46:=Tryz.zeroValue197
 t53:=Tryz.underlying171
 a53:=Tryz.isAgg171
 z53:=Tryz.sizeOf171
 v53:=Tryz.zeroValue171 }
theorem Tryz.bits_Len64 (x:Int)(w:World)(h0:0≤x)(h1:x≤18446744073709551615) :
  Calls Tryz.prog 116 #[.int .u64 x] w fun e w'=>e=.returned (.int .i64 (Lib.bitLen x.toNat))∧w'=w:=Any.bits_Len64 Tryz.lays129 x w h0 h1
def Tryz.laysM284_ren:Go.Shelf.Ren:=⟨fun|284=>119|129=>116|317=>120|318=>168|n=>n,fun|53=>171|3=>3|212=>249|0=>0|4=>4|46=>197|5=>5|9=>9|n=>n,fun|17=>12|n=>n⟩
theorem Tryz.laysM284:Go.Proofs.LaysM.n284 Tryz.prog Tryz.laysM284_ren:={
 mixed:=by kernel_rfl
 f129:=Tryz.func116.trans (congrArg some (by kernel_rfl))
 f284:=Tryz.func119.trans (congrArg some (by kernel_rfl))
 f317:=Tryz.func120.trans (congrArg some (by kernel_rfl))
 f318:=Tryz.func168.trans (congrArg some (by kernel_rfl))
 t0:=Tryz.underlying0
 a0:=Tryz.isAgg0
 z0:=Tryz.sizeOf0
 v0:=Tryz.zeroValue0
 t3:=Tryz.underlying3
 a3:=Tryz.isAgg3
 z3:=Tryz.sizeOf3
 v3:=Tryz.zeroValue3
 t4:=Tryz.underlying4
 a4:=Tryz.isAgg4
 z4:=Tryz.sizeOf4
 v4:=Tryz.zeroValue4
 t5:=Tryz.underlying5
 a5:=Tryz.isAgg5
 z5:=Tryz.sizeOf5
 v5:=Tryz.zeroValue5
 t9:=Tryz.underlying9
 a9:=Tryz.isAgg9
 z9:=Tryz.sizeOf9
 v9:=Tryz.zeroValue9
 t46:=Tryz.underlying197
 a46:=Tryz.isAgg197
 z46:=Tryz.sizeOf197
 v46:=Tryz.zeroValue197
 t53:=Tryz.underlying171
 a53:=Tryz.isAgg171
 z53:=Tryz.sizeOf171
 v53:=Tryz.zeroValue171
 t212:=Tryz.underlying249
 a212:=Tryz.isAgg249
 z212:=Tryz.sizeOf249
 v212:=Tryz.zeroValue249
 g17:=by kernel_rfl
 i0:=by kernel_rfl
 i3:=by kernel_rfl
 i4:=by kernel_rfl
 i5:=by kernel_rfl
 i9:=by kernel_rfl
 i46:=by kernel_rfl
 i53:=by kernel_rfl
 i212:=by kernel_rfl
 m17:=by kernel_rfl }
open Go.Lib in
theorem Tryz.internal_strconv_numDigits (u:Nat)(h1:1≤u)(h2:u<18446744073709551616)(w:World)(htab:Lib.TabIs Tryz.prog w "internal/strconv.uint64pow10" .u64 Lib.pow10Tab) :
  Calls Tryz.prog 119 #[.int .u64 u] w fun e w'=>e=.returned (.int .i64 (Lib.nDigits u))∧w'=w:=Any.internal_strconv_numDigits Tryz.laysM284 u h1 h2 w htab
def Tryz.lays285_ren:Go.Shelf.Ren:=⟨fun|285=>167|n=>n,fun|37=>84|53=>171|3=>3|4=>4|51=>172|9=>9|5=>5|0=>0|n=>n,fun|n=>n⟩
theorem Tryz.lays285:Go.Proofs.Lays.n285 Tryz.prog Tryz.lays285_ren:={
 mixed:=by kernel_rfl
 f285:=Tryz.func167.trans (congrArg some (by kernel_rfl))
 t0:=Tryz.underlying0
 a0:=Tryz.isAgg0
 z0:=Tryz.sizeOf0
 v0:=Tryz.zeroValue0
 t3:=Tryz.underlying3
 a3:=Tryz.isAgg3
 z3:=Tryz.sizeOf3
 v3:=Tryz.zeroValue3
 t4:=Tryz.underlying4
 a4:=Tryz.isAgg4
 z4:=Tryz.sizeOf4
 v4:=Tryz.zeroValue4
 t5:=Tryz.underlying5
 a5:=Tryz.isAgg5
 z5:=Tryz.sizeOf5
 v5:=Tryz.zeroValue5
 t9:=Tryz.underlying9
 a9:=Tryz.isAgg9
 z9:=Tryz.sizeOf9
 v9:=Tryz.zeroValue9
 t37:=Tryz.underlying84
 a37:=Tryz.isAgg84
 z37:=Tryz.sizeOf84
 v37:=Tryz.zeroValue84
 t51:=Tryz.underlying172
 a51:=Tryz.isAgg172
 z51:=Tryz.sizeOf172
 v51:=Tryz.zeroValue172
 t53:=Tryz.underlying171
 a53:=Tryz.isAgg171
 z53:=Tryz.sizeOf171
 v53:=Tryz.zeroValue171 }
open Go.RowKit Go.Sort Go.Lib in
theorem Tryz.internal_strconv_formatBase10 (blk off cap:Nat)(u:Nat)(d:Array UInt8)(w:World)(hH:Holds (fun (b:UInt8)=>Value.int .u8 (b.toNat:Int)) w blk off d)(hu:u<10^d.size)(hu64:u<18446744073709551616)(hsz:d.size<4611686018427387904) :
  Calls Tryz.prog 167 #[.slice (some ⟨blk,off,none⟩) d.size cap,.int .u64 u] w fun e w' =>
   e=.returned (.tuple #[])∧∃(n v':Nat) (dk:Array UInt8),w'=(putRow (fun (b:UInt8)=>Value.int .u8 (b.toNat:Int)) w blk off dk).drewN n∧FmtInv d.size u 0 v' dk:=Any.internal_strconv_formatBase10 Tryz.lays285 blk off cap u d w hH hu hu64 hsz
def Tryz.laysM171_ren:Go.Shelf.Ren:=⟨fun|171=>110|243=>155|246=>203|283=>204|284=>119|285=>167|286=>205|129=>116|317=>120|318=>168|319=>227|320=>228|337=>237|338=>238|n=>n,fun|3=>3|9=>9|2=>2|4=>4|171=>185|0=>0|53=>171|37=>84|5=>5|173=>278|212=>249|51=>172|20=>20|213=>305|46=>197|232=>178|233=>317|n=>n,fun|17=>12|18=>24|19=>25|n=>n⟩
theorem Tryz.laysM171:Go.Proofs.LaysM.n171 Tryz.prog Tryz.laysM171_ren:={
 mixed:=by kernel_rfl
 f129:=Tryz.func116.trans (congrArg some (by kernel_rfl))
 f171:=Tryz.func110.trans (congrArg some (by kernel_rfl))
 f243:=Tryz.func155.trans (congrArg some (by kernel_rfl))
 f246:=Tryz.func203.trans (congrArg some (by kernel_rfl))
 f283:=Tryz.func204.trans (congrArg some (by kernel_rfl))
 f284:=Tryz.func119.trans (congrArg some (by kernel_rfl))
 f285:=Tryz.func167.trans (congrArg some (by kernel_rfl))
 f286:=Tryz.func205.trans (congrArg some (by kernel_rfl))
 f317:=Tryz.func120.trans (congrArg some (by kernel_rfl))
 f318:=Tryz.func168.trans (congrArg some (by kernel_rfl))
 f319:=Tryz.func227.trans (congrArg some (by kernel_rfl))
 f320:=Tryz.func228.trans (congrArg some (by kernel_rfl))
 f337:=Tryz.func237.trans (congrArg some (by kernel_rfl))
 f338:=Tryz.func238.trans (congrArg some (by kernel_rfl))
 t0:=Tryz.underlying0
 a0:=Tryz.isAgg0
 z0:=Tryz.sizeOf0
 v0:=Tryz.zeroValue0
 t2:=Tryz.underlying2
 a2:=Tryz.isAgg2
 z2:=Tryz.sizeOf2
 v2:=Tryz.zeroValue2
 t3:=Tryz.underlying3
 a3:=Tryz.isAgg3
 z3:=Tryz.sizeOf3
 v3:=Tryz.zeroValue3
 t4:=Tryz.underlying4
 a4:=Tryz.isAgg4
 z4:=Tryz.sizeOf4
 v4:=Tryz.zeroValue4
 t5:=Tryz.underlying5
 a5:=Tryz.isAgg5
 z5:=Tryz.sizeOf5
 v5:=Tryz.zeroValue5
 t9:=Tryz.underlying9
 a9:=Tryz.isAgg9
 z9:=Tryz.sizeOf9
 v9:=Tryz.zeroValue9
 t20:=Tryz.underlying20
 a20:=Tryz.isAgg20
 z20:=Tryz.sizeOf20
 v20:=Tryz.zeroValue20
 t37:=Tryz.underlying84
 a37:=Tryz.isAgg84
 z37:=Tryz.sizeOf84
 v37:=Tryz.zeroValue84
 t46:=Tryz.underlying197
 a46:=Tryz.isAgg197
 z46:=Tryz.sizeOf197
 v46:=Tryz.zeroValue197
 t51:=Tryz.underlying172
 a51:=Tryz.isAgg172
 z51:=Tryz.sizeOf172
 v51:=Tryz.zeroValue172
 t53:=Tryz.underlying171
 a53:=Tryz.isAgg171
 z53:=Tryz.sizeOf171
 v53:=Tryz.zeroValue171
 t171:=Tryz.underlying185
 a171:=Tryz.isAgg185
 z171:=Tryz.sizeOf185
 v171:=Tryz.zeroValue185
 t173:=Tryz.underlying278
 a173:=Tryz.isAgg278
 z173:=Tryz.sizeOf278
 v173:=Tryz.zeroValue278
 t212:=Tryz.underlying249
 a212:=Tryz.isAgg249
 z212:=Tryz.sizeOf249
 v212:=Tryz.zeroValue249
 t213:=Tryz.underlying305
 a213:=Tryz.isAgg305
 z213:=Tryz.sizeOf305
 t232:=Tryz.underlying178
 a232:=Tryz.isAgg178
 z232:=Tryz.sizeOf178
 v232:=Tryz.zeroValue178
 t233:=Tryz.underlying317
 a233:=Tryz.isAgg317
 z233:=Tryz.sizeOf317
 v233:=Tryz.zeroValue317
 g17:=by kernel_rfl
 g18:=by kernel_rfl
 g19:=by kernel_rfl
 i0:=by kernel_rfl
 i2:=by kernel_rfl
 i3:=by kernel_rfl
 i4:=by kernel_rfl
 i5:=by kernel_rfl
 i9:=by kernel_rfl
 i20:=by kernel_rfl
 i37:=by kernel_rfl
 i46:=by kernel_rfl
 i51:=by kernel_rfl
 i53:=by kernel_rfl
 i171:=by kernel_rfl
 i173:=by kernel_rfl
 i212:=by kernel_rfl
 i232:=by kernel_rfl
 i233:=by kernel_rfl
 m17:=by kernel_rfl
 m18:=by kernel_rfl
 m19:=by kernel_rfl }
open Go.RowKit Go.Sort Go.Lib in
theorem Tryz.strconv_Itoa (n:Int)(h0:-9223372036854775808≤n)(h1:n≤9223372036854775807)(w:World)(htab:Lib.TabIs Tryz.prog w "internal/strconv.uint64pow10" .u64 Lib.pow10Tab) :
  Calls Tryz.prog 110 #[.int .i64 n] w fun e w'=>e=.returned (.string ⟨(Lib.itoa n).toArray⟩)∧∃k os,w'=grow (w.drewN k) os:=Any.strconv_Itoa Tryz.laysM171 n h0 h1 w htab
def Tryz.laysC172_ren:Go.Shelf.Ren:=⟨fun|172=>77|244=>92|245=>73|247=>126|279=>86|280=>87|281=>88|282=>89|287=>177|316=>108|171=>110|205=>109|321=>158|322=>199|243=>155|246=>203|283=>204|284=>119|285=>167|286=>205|129=>116|317=>120|318=>168|319=>227|320=>228|337=>237|338=>238|n=>n,fun|9=>9|3=>3|75=>92|76=>118|4=>4|5=>5|167=>133|37=>84|0=>0|85=>193|2=>2|168=>134|53=>171|175=>254|46=>197|210=>168|127=>232|145=>235|143=>233|21=>21|171=>185|173=>278|212=>249|51=>172|20=>20|213=>305|232=>178|233=>317|80=>54|n=>n,fun|15=>2|16=>3|17=>12|18=>24|19=>25|n=>n⟩
theorem Tryz.laysC172:Go.Proofs.LaysC.n172 Tryz.prog Tryz.laysC172_ren:={
 mixed:=by kernel_rfl
 f129:=Tryz.func116.trans (congrArg some (by kernel_rfl))
 f171:=Tryz.func110.trans (congrArg some (by kernel_rfl))
 f172:=Tryz.func77.trans (congrArg some (by kernel_rfl))
 f205:=Tryz.func109.trans (congrArg some (by kernel_rfl))
 f243:=Tryz.func155.trans (congrArg some (by kernel_rfl))
 f244:=Tryz.func92.trans (congrArg some (by kernel_rfl))
 f245:=Tryz.func73.trans (congrArg some (by kernel_rfl))
 f246:=Tryz.func203.trans (congrArg some (by kernel_rfl))
 f247:=Tryz.func126.trans (congrArg some (by kernel_rfl))
 f279:=Tryz.func86.trans (congrArg some (by kernel_rfl))
 f280:=Tryz.func87.trans (congrArg some (by kernel_rfl))
 f281:=Tryz.func88.trans (congrArg some (by kernel_rfl))
 f282:=Tryz.func89.trans (congrArg some (by kernel_rfl))
 f283:=Tryz.func204.trans (congrArg some (by kernel_rfl))
 f284:=Tryz.func119.trans (congrArg some (by kernel_rfl))
 f285:=Tryz.func167.trans (congrArg some (by kernel_rfl))
 f286:=Tryz.func205.trans (congrArg some (by kernel_rfl))
 f287:=Tryz.func177.trans (congrArg some (by kernel_rfl))
 f316:=Tryz.func108.trans (congrArg some (by kernel_rfl))
 f317:=Tryz.func120.trans (congrArg some (by kernel_rfl))
 f318:=Tryz.func168.trans (congrArg some (by kernel_rfl))
 f319:=Tryz.func227.trans (congrArg some (by kernel_rfl))
 f320:=Tryz.func228.trans (congrArg some (by kernel_rfl))
 f321:=Tryz.func158.trans (congrArg some (by kernel_rfl))
 f322:=Tryz.func199.trans (congrArg some (by kernel_rfl))
 f337:=Tryz.func237.trans (congrArg some (by kernel_rfl))
 f338:=Tryz.func238.trans (congrArg some (by kernel_rfl))
 t0:=Tryz.underlying0
 a0:=Tryz.isAgg0
 z0:=Tryz.sizeOf0
 v0:=Tryz.zeroValue0
 t2:=Tryz.underlying2
 a2:=Tryz.isAgg2
 z2:=Tryz.sizeOf2
 v2:=Tryz.zeroValue2
 t3:=Tryz.underlying3
 a3:=Tryz.isAgg3
 z3:=Tryz.sizeOf3
 v3:=Tryz.zeroValue3
 t4:=Tryz.underlying4
 a4:=Tryz.isAgg4
 z4:=Tryz.sizeOf4
 v4:=Tryz.zeroValue4
 t5:=Tryz.underlying5
 a5:=Tryz.isAgg5
 z5:=Tryz.sizeOf5
 v5:=Tryz.zeroValue5
 t9:=Tryz.underlying9
 a9:=Tryz.isAgg9
 z9:=Tryz.sizeOf9
 v9:=Tryz.zeroValue9
 t20:=Tryz.underlying20
 a20:=Tryz.isAgg20
 z20:=Tryz.sizeOf20
 v20:=Tryz.zeroValue20
 t21:=Tryz.underlying21
 a21:=Tryz.isAgg21
 z21:=Tryz.sizeOf21
 v21:=Tryz.zeroValue21
 t37:=Tryz.underlying84
 a37:=Tryz.isAgg84
 z37:=Tryz.sizeOf84
 v37:=Tryz.zeroValue84
 t46:=Tryz.underlying197
 a46:=Tryz.isAgg197
 z46:=Tryz.sizeOf197
 v46:=Tryz.zeroValue197
 t51:=Tryz.underlying172
 a51:=Tryz.isAgg172
 z51:=Tryz.sizeOf172
 v51:=Tryz.zeroValue172
 t53:=Tryz.underlying171
 a53:=Tryz.isAgg171
 z53:=Tryz.sizeOf171
 v53:=Tryz.zeroValue171
 t75:=Tryz.underlying92
 a75:=Tryz.isAgg92
 z75:=Tryz.sizeOf92
 v75:=Tryz.zeroValue92
 t76:=Tryz.underlying118
 a76:=Tryz.isAgg118
 z76:=Tryz.sizeOf118
 v76:=Tryz.zeroValue118
 t85:=Tryz.underlying193
 a85:=Tryz.isAgg193
 z85:=Tryz.sizeOf193
 v85:=Tryz.zeroValue193
 t127:=Tryz.underlying232
 a127:=Tryz.isAgg232
 z127:=Tryz.sizeOf232
 v127:=Tryz.zeroValue232
 t143:=Tryz.underlying233
 a143:=Tryz.isAgg233
 z143:=Tryz.sizeOf233
 v143:=Tryz.zeroValue233
 t145:=Tryz.underlying235
 a145:=Tryz.isAgg235
 z145:=Tryz.sizeOf235
 v145:=Tryz.zeroValue235
 t167:=Tryz.underlying133
 a167:=Tryz.isAgg133
 z167:=Tryz.sizeOf133
 v167:=Tryz.zeroValue133
 t168:=Tryz.underlying134
 a168:=Tryz.isAgg134
 z168:=Tryz.sizeOf134
 v168:=Tryz.zeroValue134
 t171:=Tryz.underlying185
 a171:=Tryz.isAgg185
 z171:=Tryz.sizeOf185
 v171:=Tryz.zeroValue185
 t173:=Tryz.underlying278
 a173:=Tryz.isAgg278
 z173:=Tryz.sizeOf278
 v173:=Tryz.zeroValue278
 t175:=Tryz.underlying254
 a175:=Tryz.isAgg254
 z175:=Tryz.sizeOf254
 v175:=Tryz.zeroValue254
 t210:=Tryz.underlying168
 a210:=Tryz.isAgg168
 z210:=Tryz.sizeOf168
 v210:=Tryz.zeroValue168
 t212:=Tryz.underlying249
 a212:=Tryz.isAgg249
 z212:=Tryz.sizeOf249
 v212:=Tryz.zeroValue249
 t213:=Tryz.underlying305
 a213:=Tryz.isAgg305
 z213:=Tryz.sizeOf305
 t232:=Tryz.underlying178
 a232:=Tryz.isAgg178
 z232:=Tryz.sizeOf178
 v232:=Tryz.zeroValue178
 t233:=Tryz.underlying317
 a233:=Tryz.isAgg317
 z233:=Tryz.sizeOf317
 v233:=Tryz.zeroValue317
 g15:=by kernel_rfl
 g16:=by kernel_rfl
 g17:=by kernel_rfl
 g18:=by kernel_rfl
 g19:=by kernel_rfl
 t80:=Tryz.underlying54
 a80:=Tryz.isAgg54
 z80:=Tryz.sizeOf54
 v80:=Tryz.zeroValue54
 i0:=by kernel_rfl
 i2:=by kernel_rfl
 i3:=by kernel_rfl
 i4:=by kernel_rfl
 i5:=by kernel_rfl
 i9:=by kernel_rfl
 i20:=by kernel_rfl
 i21:=by kernel_rfl
 i37:=by kernel_rfl
 i46:=by kernel_rfl
 i51:=by kernel_rfl
 i53:=by kernel_rfl
 i75:=by kernel_rfl
 i76:=by kernel_rfl
 i80:=by kernel_rfl
 i85:=by kernel_rfl
 i127:=by kernel_rfl
 i143:=by kernel_rfl
 i145:=by kernel_rfl
 i167:=by kernel_rfl
 i168:=by kernel_rfl
 i171:=by kernel_rfl
 i173:=by kernel_rfl
 i175:=by kernel_rfl
 i210:=by kernel_rfl
 i212:=by kernel_rfl
 i232:=by kernel_rfl
 i233:=by kernel_rfl
 m15:=by kernel_rfl
 m16:=by kernel_rfl
 m17:=by kernel_rfl
 m18:=by kernel_rfl
 m19:=by kernel_rfl
 c0:=by kernel_rfl
 c2:=by kernel_rfl
 c3:=by kernel_rfl
 c4:=by kernel_rfl
 c5:=by kernel_rfl
 c9:=by kernel_rfl
 c20:=by kernel_rfl
 c21:=by kernel_rfl
 c37:=by kernel_rfl
 c46:=by kernel_rfl
 c51:=by kernel_rfl
 c53:=by kernel_rfl
 c75:=by kernel_rfl
 c76:=by kernel_rfl
 c80:=by kernel_rfl
 c85:=by kernel_rfl
 c127:=by kernel_rfl
 c143:=by kernel_rfl
 c145:=by kernel_rfl
 c167:=by kernel_rfl
 c168:=by kernel_rfl
 c171:=by kernel_rfl
 c173:=by kernel_rfl
 c175:=by kernel_rfl
 c210:=by kernel_rfl
 c212:=by kernel_rfl
 c213:=by kernel_rfl
 c232:=by kernel_rfl
 c233:=by kernel_rfl }
open Go.RowKit in
theorem Tryz.strconv_Atoi_ok (s:ByteArray)(hmax:s.size≤9223372036854775806)(v:Int)(h:Lib.atoiAll s.data.toList=.ok v)(w:World) :
  Calls Tryz.prog 77 #[.string s] w fun e w'=>e=.returned (.tuple #[.int .i64 v,.nilIface])∧(w'=w∨∃t,w'=Lib.bytesWorld w 5 t):=Any.strconv_Atoi_ok Tryz.laysC172 s hmax v h w
open Go.RowKit in
theorem Tryz.strconv_Atoi_syntax (s:ByteArray)(hlim:s.size≤281474976710656)(h:Lib.atoiAll s.data.toList=Lib.atoiAll [])(ev:Value)(w:World)(hv:w.cell? ⟨2,0,none⟩=some ev)(hev:ev=.nilIface∨∃te pe,ev=.iface te pe) :
  Calls Tryz.prog 77 #[.string s] w fun e w'=>∃N,e=.returned (.tuple #[.int .i64 (0),.iface 134 (.pointer (some ⟨N,0,none⟩))])∧w.heap.size≤N∧w'.heap[N]?=some (.cells #[.string ⟨#[65,116,111,105]⟩,.string s,ev] 168 (0,0))∧Below w.heap.size w w':=Any.strconv_Atoi_syntax Tryz.laysC172 s hlim h ev w hv hev
open Go.RowKit in
theorem Tryz.strconv_Atoi_range (s:ByteArray)(hlim:s.size≤281474976710656)(h:Lib.atoiAll s.data.toList=.range)(ev:Value)(w:World)(hv:w.cell? ⟨3,0,none⟩=some ev)(hev:ev=.nilIface∨∃te pe,ev=.iface te pe) :
  Calls Tryz.prog 77 #[.string s] w fun e w'=>∃N,e=.returned (.tuple #[.int .i64 (Lib.atoiSat s.data.toList),.iface 134 (.pointer (some ⟨N,0,none⟩))])∧w.heap.size≤N∧w'.heap[N]?=some (.cells #[.string ⟨#[65,116,111,105]⟩,.string s,ev] 168 (0,0))∧Below w.heap.size w w':=Any.strconv_Atoi_range Tryz.laysC172 s hlim h ev w hv hev
def Tryz.lays192_ren:Go.Shelf.Ren:=⟨fun|192=>78|190=>93|125=>128|258=>127|128=>187|129=>116|302=>178|303=>179|304=>180|305=>181|306=>182|307=>183|308=>184|309=>185|310=>186|333=>209|329=>210|330=>211|334=>212|335=>213|336=>214|344=>229|n=>n,fun|31=>23|0=>0|9=>9|3=>3|46=>197|51=>172|53=>171|4=>4|183=>258|182=>257|131=>262|5=>5|218=>290|222=>46|228=>307|229=>182|n=>n,fun|n=>n⟩
theorem Tryz.lays192:Go.Proofs.Lays.n192 Tryz.prog Tryz.lays192_ren:={
 mixed:=by kernel_rfl
 f125:=Tryz.func128.trans (congrArg some (by kernel_rfl))
 f128:=Tryz.func187.trans (congrArg some (by kernel_rfl))
 f129:=Tryz.func116.trans (congrArg some (by kernel_rfl))
 f190:=Tryz.func93.trans (congrArg some (by kernel_rfl))
 f192:=Tryz.func78.trans (congrArg some (by kernel_rfl))
 f258:=Tryz.func127.trans (congrArg some (by kernel_rfl))
 f302:=Tryz.func178.trans (congrArg some (by kernel_rfl))
 f303:=Tryz.func179.trans (congrArg some (by kernel_rfl))
 f304:=Tryz.func180.trans (congrArg some (by kernel_rfl))
 f305:=Tryz.func181.trans (congrArg some (by kernel_rfl))
 f306:=Tryz.func182.trans (congrArg some (by kernel_rfl))
 f307:=Tryz.func183.trans (congrArg some (by kernel_rfl))
 f308:=Tryz.func184.trans (congrArg some (by kernel_rfl))
 f309:=Tryz.func185.trans (congrArg some (by kernel_rfl))
 f310:=Tryz.func186.trans (congrArg some (by kernel_rfl))
 f329:=Tryz.func210.trans (congrArg some (by kernel_rfl))
 f330:=Tryz.func211.trans (congrArg some (by kernel_rfl))
 f333:=Tryz.func209.trans (congrArg some (by kernel_rfl))
 f334:=Tryz.func212.trans (congrArg some (by kernel_rfl))
 f335:=Tryz.func213.trans (congrArg some (by kernel_rfl))
 f336:=Tryz.func214.trans (congrArg some (by kernel_rfl))
 f344:=Tryz.func229.trans (congrArg some (by kernel_rfl))
 t0:=Tryz.underlying0
 a0:=Tryz.isAgg0
 z0:=Tryz.sizeOf0
 v0:=Tryz.zeroValue0
 t3:=Tryz.underlying3
 a3:=Tryz.isAgg3
 z3:=Tryz.sizeOf3
 v3:=Tryz.zeroValue3
 t4:=Tryz.underlying4
 a4:=Tryz.isAgg4
 z4:=Tryz.sizeOf4
 v4:=Tryz.zeroValue4
 t5:=Tryz.underlying5
 a5:=Tryz.isAgg5
 z5:=Tryz.sizeOf5
 v5:=Tryz.zeroValue5
 t9:=Tryz.underlying9
 a9:=Tryz.isAgg9
 z9:=Tryz.sizeOf9
 v9:=Tryz.zeroValue9
 t31:=Tryz.underlying23
 a31:=Tryz.isAgg23
 z31:=Tryz.sizeOf23
 v31:=Tryz.zeroValue23
 t46:=Tryz.underlying197
 a46:=Tryz.isAgg197
 z46:=Tryz.sizeOf197
 v46:=Tryz.zeroValue197
 t51:=Tryz.underlying172
 a51:=Tryz.isAgg172
 z51:=Tryz.sizeOf172
 v51:=Tryz.zeroValue172
 t53:=Tryz.underlying171
 a53:=Tryz.isAgg171
 z53:=Tryz.sizeOf171
 v53:=Tryz.zeroValue171
 t131:=Tryz.underlying262
 a131:=Tryz.isAgg262
 z131:=Tryz.sizeOf262
 v131:=Tryz.zeroValue262
 t182:=Tryz.underlying257
 a182:=Tryz.isAgg257
 z182:=Tryz.sizeOf257
 v182:=Tryz.zeroValue257
 t183:=Tryz.underlying258
 a183:=Tryz.isAgg258
 z183:=Tryz.sizeOf258
 v183:=Tryz.zeroValue258
 t218:=Tryz.underlying290
 a218:=Tryz.isAgg290
 z218:=Tryz.sizeOf290
 v218:=Tryz.zeroValue290
 t222:=Tryz.underlying46
 a222:=Tryz.isAgg46
 z222:=Tryz.sizeOf46
 v222:=Tryz.zeroValue46
 t228:=Tryz.underlying307
 a228:=Tryz.isAgg307
 z228:=Tryz.sizeOf307
 v228:=Tryz.zeroValue307
 t229:=Tryz.underlying182
 a229:=Tryz.isAgg182
 z229:=Tryz.sizeOf182
 v229:=Tryz.zeroValue182 }
open Go.Sort Go.RowKit in
theorem Tryz.sort_Strings (blk off cap:Nat)(ss:List (List UInt8))(w:World)(hH:Holds encStr w blk off ss.toArray)(hblk:blk<w.heap.size)(hsz:ss.length<4611686018427387904) :
  Calls Tryz.prog 78 #[.slice (some ⟨blk,off,none⟩) ss.length cap] w fun e w' =>
   e=.returned (.tuple #[])∧∃n os,w'=grow (putRow encStr (Sort.ahead w n) blk off (ss.mergeSort fun x y=>decide (x≤y)).toArray) os:=Any.sort_Strings Tryz.lays192 blk off cap ss w hH hblk hsz
def Tryz.lays264_ren:Go.Shelf.Ren:=⟨fun|264=>206|n=>n,fun|53=>171|46=>197|n=>n,fun|n=>n⟩
theorem Tryz.lays264:Go.Proofs.Lays.n264 Tryz.prog Tryz.lays264_ren:={
 mixed:=by kernel_rfl
 f264:=Tryz.func206.trans (congrArg some (by kernel_rfl))
 t46:=Tryz.underlying197
 a46:=Tryz.isAgg197
 z46:=Tryz.sizeOf197
 v46:=Tryz.zeroValue197
 t53:=Tryz.underlying171
 a53:=Tryz.isAgg171
 z53:=Tryz.sizeOf171
 v53:=Tryz.zeroValue171 }
open Go.RowKit Go.Lib in
theorem Tryz.bits_Mul64 (x y:Nat)(hx:x<18446744073709551616)(hy:y<18446744073709551616)(w:World) :
  Calls Tryz.prog 206 #[.int .u64 x,.int .u64 y] w fun e w'=>e=.returned (.tuple #[.int .u64 ((x*y/18446744073709551616:Nat):Int),.int .u64 ((x*y%18446744073709551616:Nat):Int)])∧w'=w:=Any.bits_Mul64 Tryz.lays264 x y hx hy w
open Go.RowKit Go.Sort in
theorem Tryz.sort_Strings_none (p:Option Addr)(cap:Nat)(w:World) :
  Calls Tryz.prog 78 #[.slice p 0 cap] w fun e w'=>e=.returned (.tuple #[])∧w'=w:=Any.sort_Strings_none Tryz.lays192 p cap w
def Tryz.laysPah39_ren:Go.Shelf.Ren:=⟨fun|39=>281|41=>282|40=>283|n=>n,fun|30=>84|9=>9|3=>3|0=>0|5=>5|46=>197|n=>n,fun|n=>n⟩
theorem Tryz.laysPah39:Go.Proofs.Lays.ph39 Tryz.prog Tryz.laysPah39_ren:={
 mixed:=by kernel_rfl
 f39:=Tryz.func281.trans (congrArg some (by kernel_rfl))
 f40:=Tryz.func283.trans (congrArg some (by kernel_rfl))
 f41:=Tryz.func282.trans (congrArg some (by kernel_rfl))
 t0:=Tryz.underlying0
 a0:=Tryz.isAgg0
 z0:=Tryz.sizeOf0
 v0:=Tryz.zeroValue0
 t3:=Tryz.underlying3
 a3:=Tryz.isAgg3
 z3:=Tryz.sizeOf3
 v3:=Tryz.zeroValue3
 t5:=Tryz.underlying5
 a5:=Tryz.isAgg5
 z5:=Tryz.sizeOf5
 v5:=Tryz.zeroValue5
 t9:=Tryz.underlying9
 a9:=Tryz.isAgg9
 z9:=Tryz.sizeOf9
 v9:=Tryz.zeroValue9
 t30:=Tryz.underlying84
 a30:=Tryz.isAgg84
 z30:=Tryz.sizeOf84
 v30:=Tryz.zeroValue84
 t46:=Tryz.underlying197
 a46:=Tryz.isAgg197
 z46:=Tryz.sizeOf197
 v46:=Tryz.zeroValue197
 info5:=by kernel_rfl }
open Go.RowKit Go.Lib in
theorem Tryz.hex_EncodeToString_bytes (bs os cs:Nat)(l:List UInt8)(w:World)(hsrc:∀i (h:i<l.length),w.cell? ⟨bs,os+i,none⟩=some (.int .u8 ((l[i]'h).toNat:Int)))(hb:bs<w.heap.size)(hbig:2*l.length≤281474976710656) :
  Calls Tryz.prog 281 #[.slice (some ⟨bs,os,none⟩) l.length cs] w fun e w'=>e=.returned (.string ⟨(Hx.encode l).toArray⟩)∧Below w.heap.size w w':=Any.hex_EncodeToString_bytes Tryz.laysPah39 bs os cs l w hsrc hb hbig
end Go.Proofs
namespace Go.Proofs.YtfkecmlmnhbmoaaGreatDoor
def rfF:By→Nat→Nat→Int→Bool→Nat×Nat×Int×Bool
 | [],M,nd,dp,tr=>(M,nd,dp,tr)
 | c::l,M,nd,dp,tr =>
  if c.toNat=46 then rfF l M nd nd tr
  else if c.toNat=48∧nd=0 then rfF l M nd (dp-1) tr
  else if nd<19 then rfF l (M*10+(c.toNat-48)) (nd+1) dp tr
  else rfF l M (nd+1) dp (if c.toNat=48 then tr else true)
def stF:By→Nat→Int→Nat×Int
 | [],N,dp=>(N,dp)
 | c::l,N,dp =>
  if c.toNat=46 then stF l N (numD N)
  else if c.toNat=48∧N=0 then stF l N (dp-1)
  else stF l (10*N+(c.toNat-48)) dp
theorem numD_dig {N d:Nat}(hd:d≤9)(h:¬(d=0∧N=0)):numD (10*N+d)=numD N+1:=by
 rw[numD_pos (by omega),show (10*N+d)/10=N by omega]
theorem scan_cons {c:UInt8}{l:By}{d p a:Int}{r:Int×Int×Int}(h:numScan (c::l) d p a=some r) :
  (48≤c.toNat∧c.toNat≤57∧numScan l (d+1) p (if p==0 then a+1 else a)=some r)∨(c.toNat=46∧numScan l d (p+1) a=some r):=by
 simp only[numScan]at h
 split at h
 ·rename_i hd
  left;simp[isDig]at hd;exact⟨by omega,by omega,h⟩
 ·split at h
  ·rename_i h46
   right;simp at h46;exact⟨by omega,h⟩
  ·cases h
theorem scan_mono:∀(l:By) (d p a D P A:Int),numScan l d p a=some (D,P,A)→d≤D∧p≤P∧a≤A∧D-d+(P-p)=l.length:=by
 intro l
 induction l with
 | nil=>intro d p a D P A h;simp[numScan]at h;simp;omega
 | cons c l ih =>
  intro d p a D P A h;simp only[List.length_cons];rcases scan_cons h with⟨_,_,h⟩|⟨_,h⟩
  ·have:=ih _ _ _ _ _ _ h
   split at this<;>omega
  ·have:=ih _ _ _ _ _ _ h
   omega
theorem rf_st:∀(l:By) (M N nd:Nat) (dp:Int) (tr:Bool) (d p a:Int) (r:Int×Int×Int),numScan l d p a=some r→numD N=nd→(rfF l M nd dp tr).2.1=numD (stF l N dp).1∧(rfF l M nd dp tr).2.2.1=(stF l N dp).2:=by
 intro l
 induction l with
 | nil=>intro M N nd dp tr d p a r _ hn;simp[rfF,stF,hn]
 | cons c l ih =>
  intro M N nd dp tr d p a r h hn
  have hN:nd=0↔N=0:=by
   constructor
   ·intro e;by_cases h0:N=0
    ·exact h0
    ·have:=numD_pos1 h0;omega
   ·intro e;rw[←hn,e,numD_zero]
  rcases scan_cons h with⟨h1,h2,h⟩|⟨h1,h⟩
  ·simp only[rfF,stF]
   have h46:¬c.toNat=46:=by omega
   rw[if_neg h46,if_neg h46]
   by_cases hz:c.toNat=48∧nd=0
   ·rw[if_pos hz,if_pos ⟨hz.1,hN.1 hz.2⟩]
    exact ih _ _ _ _ _ _ _ _ _ h hn
   ·have hz2:¬(c.toNat=48∧N=0):=fun x=>hz ⟨x.1,hN.2 x.2⟩
    rw[if_neg hz,if_neg hz2];have hd:=numD_dig (N:=N) (d:=c.toNat-48) (by omega) (fun x=>hz ⟨by omega,hN.2 x.2⟩)
    split
    ·exact ih _ _ _ _ _ _ _ _ _ h (by rw[hd,hn])
    ·exact ih _ _ _ _ _ _ _ _ _ h (by rw[hd,hn])
  ·simp only[rfF,stF]
   rw[if_pos h1,if_pos h1,hn];exact ih _ _ _ _ _ _ _ _ _ h hn
structure RfI (M nd:Nat)(dp:Int)(tr:Bool)(d p a:Int):Prop where
 nd_d:nd≤d
 lo:nd-dp≤d
 hi:dp≤a
 m:M<10^min nd 19
 m0:M=0↔nd=0
 t:tr=true→20≤nd
 a0:0≤a
 pd:p=0→a=d
 p0:0≤p
theorem RfI.start:RfI 0 0 0 false 0 0 0:=⟨by simp,by simp,by simp,by simp,by simp,by simp,by simp,by simp,by simp⟩
theorem RfI.zero {M nd:Nat}{dp:Int}{tr:Bool}{d p a:Int}(h:RfI M nd dp tr d p a)(h0:nd=0):RfI M nd (dp-1) tr (d+1) p (if p==0 then a+1 else a):=by
 obtain⟨h1,h2,h3,h4,h5,h6,h7,h8,h9⟩:=h;refine⟨by omega,by omega,by split<;>omega,h4,h5,h6,by split<;>omega,?_,h9⟩;intro e;rw[if_pos (by simp[e])];have:=h8 e;omega
theorem RfI.point {M nd:Nat}{dp:Int}{tr:Bool}{d p a:Int}(h:RfI M nd dp tr d p a)(hp:p=0):RfI M nd nd tr d (p+1) a:=by
 obtain⟨h1,h2,h3,h4,h5,h6,h7,h8,h9⟩:=h;refine⟨h1,by omega,by have:=h8 hp;omega,h4,h5,h6,h7,by omega,by omega⟩
theorem RfI.dig {M nd:Nat}{dp:Int}{tr:Bool}{d p a:Int}(h:RfI M nd dp tr d p a){e:Nat}(he:e≤9)(h0:¬(e=0∧nd=0))(h19:nd<19):RfI (M*10+e) (nd+1) dp tr (d+1) p (if p==0 then a+1 else a):=by
 obtain⟨h1,h2,h3,h4,h5,h6,h7,h8,h9⟩:=h;refine⟨by omega,by omega,by split<;>omega,?_,by omega,fun x=>by have:=h6 x;omega,by split<;>omega,?_,h9⟩
 ·rw[Nat.min_eq_left (by omega)]at h4
  rw[Nat.min_eq_left (by omega),Nat.pow_succ];omega
 ·intro x;rw[if_pos (by simp[x])];have:=h8 x;omega
theorem RfI.more {M nd:Nat}{dp:Int}{tr tr':Bool}{d p a:Int}(h:RfI M nd dp tr d p a)(h19:¬nd<19):RfI M (nd+1) dp tr' (d+1) p (if p==0 then a+1 else a):=by
 obtain⟨h1,h2,h3,h4,h5,h6,h7,h8,h9⟩:=h;refine⟨by omega,by omega,by split<;>omega,?_,by omega,fun x=>by omega,by split<;>omega,?_,h9⟩
 ·rw[Nat.min_eq_right (by omega)]at h4⊢;exact h4
 ·intro x;rw[if_pos (by simp[x])];have:=h8 x;omega
theorem rf_end:∀(l:By) (M nd:Nat) (dp:Int) (tr:Bool) (d p a D A:Int),numScan l d p a=some (D,1,A)→RfI M nd dp tr d p a→RfI (rfF l M nd dp tr).1 (rfF l M nd dp tr).2.1 (rfF l M nd dp tr).2.2.1 (rfF l M nd dp tr).2.2.2 D 1 A:=by
 intro l
 induction l with
 | nil=>intro M nd dp tr d p a D A h hi;simp[numScan]at h;obtain⟨rfl,rfl,rfl⟩:=h;exact hi
 | cons c l ih =>
  intro M nd dp tr d p a D A h hi;have hm:=scan_mono _ _ _ _ _ _ _ h;rcases scan_cons h with⟨h1,h2,h⟩|⟨h1,h⟩
  ·have h46:¬c.toNat=46:=by omega
   simp only[rfF];rw[if_neg h46]
   split
   ·rename_i hz;exact ih _ _ _ _ _ _ _ _ _ h (hi.zero hz.2)
   ·rename_i hz
    split
    ·rename_i h19;exact ih _ _ _ _ _ _ _ _ _ h (hi.dig (by omega) (fun x=>hz ⟨by omega,x.2⟩) h19)
    ·rename_i h19;exact ih _ _ _ _ _ _ _ _ _ h (hi.more h19)
  ·simp only[rfF]
   rw[if_pos h1];have hm2:=scan_mono _ _ _ _ _ _ _ h;exact ih _ _ _ _ _ _ _ _ _ h (hi.point (by have:=hi.p0;omega))
inductive PV where
 | null|bool (n:Int)|int (n:Int)|real (x:Nat)|str (l:By)|name (l:By)|arr (kids:List PV)|dict (keys:List By)(kids:List PV)|ref (n g:Int)
abbrev Rd (α:Type):=Option (α×By×Bool)
def wTrue:By:=[116,114,117,101]
def wFalse:By:=[102,97,108,115,101]
def wNull:By:=[110,117,108,108]
def headIs (l:By)(p:Int→Bool):Bool:=match l with
 | []=>false
 | c::_=>p (c.toNat:Int)
def hasPct (l:By):Bool:=l.any fun c=>(c.toNat:Int)==37
def refF (pf:By→Nat)(n:Int)(text l:By)(o:Bool):Rd PV :=
 let a:=passM false l o
 let s:=wordT a.1
 let ob:=wordO a.1 a.2
 let g:=numF pf s
 if g.2.2.2==1 then some (.int n,l,o||ob)
 else
  let c:=passM false (wordR a.1) ob
  let w:=wordT c.1
  let oc:=wordO c.1 c.2
  if w≠[82]∨g.2.2.2≠0∨g.1≠2∨headIs s isDig=false∨headIs text isDig=false then some (.int n,l,(o||oc)||headIs w (· == 82))
  else if n==0∨65535<g.2.1 then none
  else some (.ref n g.2.1,wordR c.1,oc||hasPct (l.take (l.length-(wordR c.1).length)))
def rdNum (pf:By→Nat)(l:By)(o:Bool):Rd PV :=
 let t:=wordT l
 let r:=wordR l
 let o1:=wordO l o
 if t=wTrue then some (.bool 1,r,o1)
 else if t=wFalse then some (.bool 0,r,o1)
 else if t=wNull then some (.null,r,o1)
 else
  let v:=numF pf t
  if v.2.2.2≠0 then none
  else if v.1≠2 then some (.real v.2.2.1,r,o1)
  else refF pf v.2.1 t r o1
def rdArr (f:By→Bool→Rd PV):Nat→By→Bool→List PV→Rd (List PV)
 | 0,_,_,_=>none
 | m + 1, l, o, acc =>
  let a:=passM false l o
  if headIs a.1 (· == 93) then some (acc,a.1.tail,a.2)
  else match f a.1 a.2 with
   | none=>none
   | some (x,l2,o2)=>rdArr f m l2 o2 (acc++[x])
def is2 (l:By)(n:Int):Bool:=match l with
 | c::d::_=>(c.toNat:Int)==n&&(d.toNat:Int)==n
 | _=>false
def rdDict (f:By→Bool→Rd PV):Nat→By→Bool→List By→List PV→Rd (List By×List PV)
 | 0,_,_,_,_=>none
 | m + 1, l, o, ks, acc =>
  let a:=passM false l o
  if is2 a.1 62 then some ((ks,acc),a.1.tail.tail,a.2)
  else if headIs a.1 (· == 47) then
   match nameB (wordT a.1.tail) [] with
   | none=>none
   | some k =>
    if 35∈k∨k∈ks then none
    else match f (wordR a.1.tail) (wordO a.1.tail a.2) with
     | none=>none
     | some (x,l2,o2)=>rdDict f m l2 o2 (ks++[k]) (acc++[x])
  else none
def rdV (pf:By→Nat):Nat→By→Bool→Rd PV
 | 0,_,_=>none
 | n + 1, l0, o0 =>
  let a:=passM false l0 o0
  match a.1 with
  | []=>none
  | c :: l =>
   if (c.toNat:Int)==40 then (litF (c::l) 0 []).map fun r=>(.str r.1,r.2,a.2)
   else if is2 (c::l) 60 then (rdDict (rdV pf n) l.tail.length l.tail a.2 [] []).map fun r=>(.dict r.1.1 r.1.2,r.2)
   else if (c.toNat:Int)==60 then
    let h:=hexF l false 0 [] a.2
    if h.1==0 then some (.str h.2.1,h.2.2.1,h.2.2.2) else none
   else if (c.toNat:Int)==47 then (nameB (wordT l) []).map fun k=>(.name k,wordR l,wordO l a.2)
   else if (c.toNat:Int)==91 then (rdArr (rdV pf n) l.length l a.2 []).map fun r=>(.arr r.1,r.2)
   else if isDelim (c.toNat:Int) then none
   else rdNum pf (c::l) a.2
theorem passM_len:∀(b:Bool) (l:By) (o:Bool),(passM b l o).1.length≤l.length:=by
 intro b l
 induction l generalizing b with
 | nil=>intro o;cases b<;>exact Nat.le_refl _
 | cons c l ih =>
  intro o
  cases b
  all_goals
   simp only[passM]
   repeat' split
   all_goals first
    | exact Nat.le_trans (ih _ _) (by simp)
    | exact Nat.le_refl _
theorem wordR_len (l:By):(wordR l).length≤l.length:=(List.dropWhile_sublist _).length_le
theorem word_split (l:By):wordT l++wordR l=l:=List.takeWhile_append_dropWhile
theorem litF_len:∀(n:Nat) (l:By) (op:Int) (out o' r:By),l.length≤n→litF l op out=some (o',r)→r.length<l.length:=by
 intro n
 induction n with
 | zero =>
  intro l op out o' r hl h;obtain rfl:l=[]:=List.eq_nil_of_length_eq_zero (by omega);rw[litF_nil]at h;exact absurd h (by simp)
 | succ n ih =>
  intro l op out o' r hl h
  cases l with
  | nil=>rw[litF_nil]at h;exact absurd h (by simp)
  | cons c l =>
   simp only[List.length_cons]at hl⊢;have h1:=skip10_len l;have h2:=escF_len l;rw[litF_cons]at h
   repeat' split at h
   all_goals first
    | (have:=ih _ _ _ _ _ (by omega) h;omega)
    | (simp at h;obtain⟨_,rfl⟩:=h;omega)
theorem hexF_len:∀(l:By) (od:Bool) (half:Int) (out:By) (o:Bool),(hexF l od half out o).1=0→(hexF l od half out o).2.2.1.length<l.length:=by
 intro l
 induction l with
 | nil=>intro od half out o h;simp[hexF]at h
 | cons c l ih =>
  intro od half out o h;simp only[hexF]at h⊢
  split at h
  ·rename_i hc;simp only[hc,if_true];simp
  ·rename_i hc
   simp only[hc];simp only[Bool.false_eq_true,if_false]
   split at h
   ·rename_i hw;simp only[hw,if_true];exact Nat.lt_succ_of_lt (ih _ _ _ _ h)
   ·rename_i hw
    simp only[hw,Bool.false_eq_true,if_false]
    split at h
    ·simp at h
    ·rename_i hv
     rw[if_neg hv]
     split at h
     ·rename_i ho;simp only[ho,if_true];exact Nat.lt_succ_of_lt (ih _ _ _ _ h)
     ·rename_i ho;simp only[ho];exact Nat.lt_succ_of_lt (ih _ _ _ _ h)
theorem refF_len {pf:By→Nat}{n:Int}{t l:By}{o:Bool}{x:PV}{r:By}{o':Bool}(h:refF pf n t l o=some (x,r,o')):r.length≤l.length:=by
 have h1:=passM_len false l o;have h2:=wordR_len (passM false l o).1;have h3:=passM_len false (wordR (passM false l o).1) (wordO (passM false l o).1 (passM false l o).2);have h4:=wordR_len (passM false (wordR (passM false l o).1) (wordO (passM false l o).1 (passM false l o).2)).1;simp only[refF]at h
 repeat' split at h
 all_goals simp at h
 ·obtain⟨_,rfl,_⟩:=h;exact Nat.le_refl _
 ·obtain⟨_,rfl,_⟩:=h;exact Nat.le_refl _
 ·obtain⟨_,rfl,_⟩:=h;omega
theorem rdNum_len {pf:By→Nat}{l:By}{o:Bool}{x:PV}{r:By}{o':Bool}(h:rdNum pf l o=some (x,r,o')):r.length<l.length:=by
 have hs:(wordT l).length+(wordR l).length=l.length:=by rw[←List.length_append,word_split]
 have hne:wordT l≠[]:=by
  intro e;simp only[rdNum,e]at h;simp[wTrue,wFalse,wNull,numF,numStrip,numScan]at h
 have hp:0<(wordT l).length:=List.length_pos_iff.2 hne;simp only[rdNum]at h
 repeat' split at h
 ·simp at h;obtain⟨_,rfl,_⟩:=h;omega
 ·simp at h;obtain⟨_,rfl,_⟩:=h;omega
 ·simp at h;obtain⟨_,rfl,_⟩:=h;omega
 ·simp at h
 ·simp at h;obtain⟨_,rfl,_⟩:=h;omega
 ·have:=refF_len h;omega
theorem rdArr_len {f:By→Bool→Rd PV}(hf:∀l o x r o',f l o=some (x,r,o')→r.length<l.length):∀(m:Nat) (l:By) (o:Bool) (acc kids:List PV) (r:By) (o':Bool),rdArr f m l o acc=some (kids,r,o')→r.length<l.length:=by
 intro m
 induction m with
 | zero=>intro l o acc kids r o' h;simp[rdArr]at h
 | succ m ih =>
  intro l o acc kids r o' h;have h1:=passM_len false l o;simp only[rdArr]at h;generalize passM false l o=a at h h1;obtain⟨la,oa⟩:=a;simp only at h h1
  split at h
  ·rename_i hc
   simp at h;obtain⟨_,rfl,_⟩:=h
   cases la with
   | nil=>simp[headIs]at hc
   | cons c la=>simp at h1⊢;omega
  ·split at h
   ·simp at h
   ·rename_i x l2 o2 e
    have:=hf _ _ _ _ _ e;have:=ih _ _ _ _ _ _ h;omega
theorem rdDict_len {f:By→Bool→Rd PV}(hf:∀l o x r o',f l o=some (x,r,o')→r.length<l.length):∀(m:Nat) (l:By) (o:Bool) (ks:List By) (acc:List PV) (res:List By×List PV) (r:By) (o':Bool),rdDict f m l o ks acc=some (res,r,o')→r.length<l.length:=by
 intro m
 induction m with
 | zero=>intro l o ks acc res r o' h;simp[rdDict]at h
 | succ m ih =>
  intro l o ks acc res r o' h;have h1:=passM_len false l o;simp only[rdDict]at h;generalize passM false l o=a at h h1;obtain⟨la,oa⟩:=a;simp only at h h1
  split at h
  ·rename_i hc
   simp at h;obtain⟨_,rfl,_⟩:=h
   cases la with
   | nil=>simp[is2]at hc
   | cons c la =>
    cases la with
    | nil=>simp[is2]at hc
    | cons d la=>simp at h1⊢;omega
  ·split at h
   ·rename_i hc
    cases la with
    | nil=>simp[headIs]at hc
    | cons c la =>
     simp only[List.tail_cons]at h;have h2:=wordR_len la;simp only[List.length_cons]at h1
     split at h
     ·simp at h
     ·split at h
      ·simp at h
      ·split at h
       ·simp at h
       ·rename_i x l2 o2 e
        have:=hf _ _ _ _ _ e;have:=ih _ _ _ _ _ _ _ h;omega
   ·simp at h
theorem rdV_len (pf:By→Nat):∀(n:Nat) (l:By) (o:Bool) (x:PV) (r:By) (o':Bool),rdV pf n l o=some (x,r,o')→r.length<l.length:=by
 intro n
 induction n with
 | zero=>intro l o x r o' h;simp[rdV]at h
 | succ n ih =>
  intro l o x r o' h;have h1:=passM_len false l o;simp only[rdV]at h;generalize passM false l o=a at h h1;obtain⟨la,oa⟩:=a;simp only at h h1
  cases la with
  | nil=>simp at h
  | cons c la =>
   simp only[List.length_cons]at h1;simp only at h
   split at h
   ·simp at h
    obtain⟨a1,b1,e,_,rfl,_⟩:=h;have:=litF_len _ _ _ _ _ _ (Nat.le_refl _) e;simp at this;omega
   ·split at h
    ·rename_i hc
     cases la with
     | nil=>simp[is2]at hc
     | cons d la =>
      rw[Option.map_eq_some_iff]at h;obtain⟨⟨q,r1,o1⟩,e,h⟩:=h;simp at h;obtain⟨_,rfl,_⟩:=h;have:=rdDict_len ih _ _ _ _ _ _ _ _ e;simp at h1 this;omega
    ·split at h
     ·split at h
      ·rename_i hh
       simp at h;obtain⟨_,rfl,_⟩:=h;have:=hexF_len _ _ _ _ _ (by simpa using hh);omega
      ·simp at h
     ·split at h
      ·simp at h
       obtain⟨a1,e,_,rfl,_⟩:=h;have:=wordR_len la;omega
      ·split at h
       ·rw[Option.map_eq_some_iff]at h
        obtain⟨⟨q,r1,o1⟩,e,h⟩:=h;simp at h;obtain⟨_,rfl,_⟩:=h;have:=rdArr_len ih _ _ _ _ _ _ _ e;omega
       ·split at h
        ·simp at h
        ·have:=rdNum_len h
         simp at this;omega
end Go.Proofs.YtfkecmlmnhbmoaaGreatDoor
