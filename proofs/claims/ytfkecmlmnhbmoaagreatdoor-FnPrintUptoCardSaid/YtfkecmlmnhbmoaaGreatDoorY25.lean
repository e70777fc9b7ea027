/- The texts F17p F14z P17 J7 J8 J9 of the workbench, laid together. -/
import Derived.Test.YtfkecmlmnhbmoaaGreatDoorProg
import Derived.WalkKit
import Derived.WalkLawsBesides
import Derived.WalkSpells
import Derived.BigQuiet
import Derived.BigRegion
import Derived.Deep.QuietTactic
import Derived.Deep.RegionHeld3
import Derived.Deep.LoopGhost
import Derived.StillTailTactics
import Derived.Lib.Hide
import Derived.Laws.EntriesVeiled
import Derived.Laws.FloatArith
import Derived.Lib.ItoaNum
import Derived.Test.YtfkecmlmnhbmoaaGreatDoorY9
import Derived.Test.YtfkecmlmnhbmoaaGreatDoorY19
import Derived.Test.YtfkecmlmnhbmoaaGreatDoorY20
import Derived.Test.YtfkecmlmnhbmoaaGreatDoorY21
import Derived.Test.YtfkecmlmnhbmoaaGreatDoorY23
set_option linter.unusedVariables false
set_option linter.unusedSimpArgs false
namespace Go.Proofs.YtfkecmlmnhbmoaaGreatDoor
open Go Go.RowKit
def isNumF (x:Nat):Prop:=∃ s m j,FloatKind.f64.format.read x=.number s m j
theorem isNumF_of {x:Nat} (h:x % 9223372036854775808 < 9218868437227405312):isNumF x:=by
 unfold isNumF
 have e1:FloatKind.f64.format=Ieee.double:=rfl
 have e2:Ieee.double.signWeight=9223372036854775808:=by decide
 have e3:Ieee.double.infRung=9218868437227405312:=by decide
 rw [e1]
 unfold Ieee.Format.read
 simp only [e2,e3]
 split
 ·exact ⟨_,_,_,rfl⟩
 ·first | exact ⟨_,_,_,rfl⟩ | (rw [if_pos h];exact ⟨_,_,_,rfl⟩)
theorem ofInt_lt {M:Nat} (h:M < 9007199254740992):floatOfInt .f64 (M:Int) < 9218868437227405312:=by
 have e1:floatOfInt .f64 (M:Int)=Ieee.double.nearest false M 0:=by
  show Ieee.double.write (.number (decide ((M:Int) < 0)) (M:Int).natAbs 0)=_
  rw [decide_eq_false (by omega),Int.natAbs_natCast]
  rfl
 rw [e1]
 unfold Ieee.Format.nearest
 by_cases h0:M=0
 ·rw [if_pos h0];decide
 ·rw [if_neg h0]
  have hL:M.log2 < 53:=(Nat.log2_lt h0).2 (by omega)
  have hlt:M < 2 ^ (M.log2 + 1):=Nat.lt_log2_self
  generalize M.log2=L at *
  have e2:Ieee.double.leastPlace=-1074:=by decide
  have e3:Ieee.double.binade=4503599627370496:=by decide
  have e4:Ieee.double.infRung=9218868437227405312:=by decide
  have e5:(Ieee.double.fractionBits:Int)=52:=by decide
  simp only [e2,e3,e4,e5]
  rw [show max ((0:Int) + (L:Nat) - 52) (-1074)=(L:Int) - 52 by omega]
  rw [show ((0:Int) - ((L:Int) - 52)).toNat=52 - L by omega,show (((L:Int) - 52) - 0).toNat=0 by omega,show (((L:Int) - 52) - (-1074)).toNat=L + 1022 by omega]
  have ek:Ieee.Toward.even.cut false (M <<< (52 - L)) 0=M * 2 ^ (52 - L):=by
   unfold Ieee.Toward.cut
   simp [Nat.shiftLeft_eq,Nat.mod_one]
  rw [ek]
  unfold Ieee.Format.word
  have hk:M * 2 ^ (52 - L) < 9007199254740992:=by
   calc M * 2 ^ (52 - L) < 2 ^ (L + 1) * 2 ^ (52 - L):=Nat.mul_lt_mul_of_pos_right hlt (Nat.pow_pos (by decide))
    _=2 ^ 53:=by rw [←Nat.pow_add];congr 1;omega
    _=_:=by decide
  simp only [Bool.false_eq_true,if_false]
  refine Nat.lt_of_le_of_lt (Nat.min_le_left _ _) ?_
  have h5:(L + 1022) * 4503599627370496≤1074 * 4503599627370496:=Nat.mul_le_mul_right _ (by omega)
  have h6:=Nat.add_lt_add_of_le_of_lt h5 hk
  exact Nat.lt_of_lt_of_le h6 (by decide)
theorem isNumF_ofInt {M:Nat} (h:M < 9007199254740992):isNumF (floatOfInt .f64 (M:Int)):=isNumF_of (Nat.lt_of_le_of_lt (Nat.mod_le _ _) (ofInt_lt h))
theorem isNumF_neg {x:Nat} (h:x < 9218868437227405312):isNumF (Op.negFloat .f64 x):=by
 apply isNumF_of
 have e63:FloatKind.f64.format.exponentBits + FloatKind.f64.format.fractionBits=63:=by decide
 have e:Op.negFloat .f64 x=x ^^^ 2 ^ 63:=by unfold Op.negFloat;rw [e63]
 rw [e,show (9223372036854775808:Nat)=2 ^ 63 by decide,Nat.xor_mod_two_pow,Nat.mod_self,Nat.xor_zero]
 exact Nat.lt_of_le_of_lt (Nat.mod_le _ _) h
theorem mul_some {x y:Nat} (hx:isNumF x) (hy:isNumF y):∃ r,floatBits .mul .f64 x y=some r∧nnF r:=by
 obtain ⟨s,m,i,h1⟩:=hx
 obtain ⟨t,n,j,h2⟩:=hy
 unfold floatBits Ieee.Format.mul
 simp only [h1,h2,Ieee.Datum.product,Option.map_some]
 exact ⟨_,rfl,nnF_nearest _ _ _⟩
theorem div_some {x y:Nat} (hx:isNumF x) (hy:∃ s m j,FloatKind.f64.format.read y=.number s m j∧m≠0):∃ r,floatBits .quo .f64 x y=some r∧nnF r:=by
 obtain ⟨s,m,i,h1⟩:=hx
 obtain ⟨t,n,j,h2,h3⟩:=hy
 unfold floatBits Ieee.Format.div
 simp only [h1,h2,Ieee.Datum.quotient,if_neg h3,Option.map_some]
 exact ⟨_,rfl,nnF_nearest _ _ _⟩
end Go.Proofs.YtfkecmlmnhbmoaaGreatDoor
namespace Go.Proofs.YtfkecmlmnhbmoaaGreatDoor
open Go Go.RowKit
theorem set_any (w:World) (b:Nat) (A:By) (s:ByteArray) (l:By) (hD:DecAt w b A 0 0 false false) (hs:s.data.toList=l) (hok:numOk l) (hs2:s.size≤1000) :
  Calls Tryz.prog 149 #[.pointer (some ⟨b,0,none⟩),.string s] w fun e w'=>e=.returned (.bool true)∧DecN w' b (stF (numStrip l) 0 0).1 (stF (numStrip l) 0 0).2 (headIs l (· == 45)) false∧w.grownBy w' (some b):=by
 obtain ⟨pre,c,l1,d,a,rfl,hp,hst,hsc,hd1,hd2,ha⟩:=numOk_parts hok
 have hcc:=scan_dig hsc
 have hc45:((c.toNat:Int) == 45)=false:=by simp;omega
 rw [hst]
 rcases hp with rfl | rfl | rfl
 ·have:=set_a w b A s c l1 d a hD hs hsc hd1 hd2 ha hs2
  simpa [headIs,hc45] using this
 ·have:=set_b w b A s c l1 d a hD hs hsc hd1 hd2 ha hs2
  simpa [headIs] using this
 ·have:=set_c w b A s c l1 d a hD hs hsc hd1 hd2 ha hs2
  simpa [headIs] using this
end Go.Proofs.YtfkecmlmnhbmoaaGreatDoor
namespace Go.Proofs.YtfkecmlmnhbmoaaGreatDoor
theorem litF_app:∀ (n:Nat) (l:By) (j:Int) (out t r z:By),l.length≤n→litF l j out=some (t,r)→litF (l ++ z) j out=some (t,r ++ z):=by
 intro n
 induction n with
 | zero =>
  intro l j out t r z hl h
  obtain rfl:l=[]:=List.eq_nil_of_length_eq_zero (by omega)
  rw [litF_nil] at h;exact absurd h (by simp)
 | succ n ih =>
  intro l j out t r z hl h
  cases l with
  | nil=>rw [litF_nil] at h;exact absurd h (by simp)
  | cons c l =>
   simp only [List.length_cons] at hl
   rw [litF_cons] at h
   rw [List.cons_append,litF_cons]
   by_cases h40:((c.toNat:Int) == 40)=true
   ·rw [if_pos h40] at h ⊢
    split at h<;>rename_i hh
    ·rw [if_pos hh];exact ih _ _ _ _ _ _ (by omega) h
    ·rw [if_neg hh];exact ih _ _ _ _ _ _ (by omega) h
   ·rw [if_neg h40] at h ⊢
    by_cases h41:((c.toNat:Int) == 41)=true
    ·rw [if_pos h41] at h ⊢
     split at h<;>rename_i hh
     ·rw [if_pos hh]
      injection h with h;injection h with h1 h2;subst h1;subst h2;rfl
     ·rw [if_neg hh];exact ih _ _ _ _ _ _ (by omega) h
    ·rw [if_neg h41] at h ⊢
     by_cases h13:((c.toNat:Int) == 13)=true
     ·rw [if_pos h13] at h ⊢
      obtain ⟨q,h1,_,h3⟩:=skip10_split2 l
      have hq:=skip10_len l
      generalize skip10 l=m at *
      cases m with
      | nil=>rw [litF_nil] at h;exact absurd h (by simp)
      | cons e m =>
       rw [h1,List.append_assoc,h3 _ (by simp)]
       exact ih _ _ _ _ _ _ (by omega) h
     ·rw [if_neg h13] at h ⊢
      by_cases h92:((c.toNat:Int) == 92)=true
      ·rw [if_pos h92] at h ⊢
       cases l with
       | nil=>simp [escF,litF_nil] at h
       | cons d l =>
        obtain ⟨q,h1,_,h3⟩:=esc_split d l
        have hq:=escF_len (d::l)
        generalize escF (d::l)=E at *
        obtain ⟨b,is,m⟩:=E
        simp only at *
        cases m with
        | nil=>rw [litF_nil,litF_nil] at h;simp at h
        | cons e m =>
         rw [h1,List.cons_append,List.append_assoc,h3 _ (by simp)]
         simp only
         split at h<;>rename_i hh
         ·rw [if_pos hh];exact ih _ _ _ _ _ _ (by omega) h
         ·rw [if_neg hh];exact ih _ _ _ _ _ _ (by omega) h
      ·rw [if_neg h92] at h ⊢
       exact ih _ _ _ _ _ _ (by omega) h
theorem lit_read {s t:By} (h:litF (40::(s ++ [41])) 0 []=some (t,[])) (r:By):litF (40::(s ++ 41::r)) 0 []=some (t,r):=by
 have:=litF_app _ _ _ _ _ _ r (Nat.le_refl _) h
 simpa using this
theorem hexVal_char {n:Int} (h:0≤hexVal n):(48≤n∧n≤57)∨(97≤n∧n≤102)∨(65≤n∧n≤70):=by
 unfold hexVal at h
 split at h
 ·exact .inl (by assumption)
 ·split at h
  ·exact .inr (.inl (by assumption))
  ·split at h
   ·exact .inr (.inr (by assumption))
   ·omega
theorem hexF_close:∀ (s:By) (od:Bool) (half:Int) (out:By) (o:Bool),(∀ c∈s,0≤hexVal (c.toNat:Int))→∃ t,∀ r,hexF (s ++ 62::r) od half out o=(0,t,r,o):=by
 intro s
 induction s with
 | nil=>intro od half out o _;exact ⟨_,fun r=>by simp only [List.nil_append,hexF];rfl⟩
 | cons c s ih =>
  intro od half out o h
  have hc:=h c (by simp)
  have hr:=hexVal_char hc
  have e1:((c.toNat:Int) == 62)=false:=by simp;omega
  have e2:isWhite (c.toNat:Int)=false:=by simp [isWhite];omega
  have hs:∀ d∈s,0≤hexVal (d.toNat:Int):=fun d hd=>h d (by simp [hd])
  cases od with
  | true =>
   obtain ⟨t,ht⟩:=ih false half (out ++ [ub (half * 16 + hexVal (c.toNat:Int))]) o hs
   refine ⟨t,fun r=>?_⟩
   rw [List.cons_append]
   simp only [hexF,e1,e2,Bool.false_eq_true,if_false]
   rw [if_neg (by omega)]
   simpa using ht r
  | false =>
   obtain ⟨t,ht⟩:=ih true (hexVal (c.toNat:Int)) out o hs
   refine ⟨t,fun r=>?_⟩
   rw [List.cons_append]
   simp only [hexF,e1,e2,Bool.false_eq_true,if_false]
   rw [if_neg (by omega)]
   simpa using ht r
theorem hex_read {s:By} (h:∀ c∈s,0≤hexVal (c.toNat:Int)) (r:By):hexF (s ++ 62::r) false 0 [] false=(0,hexT s,r,false):=by
 obtain ⟨t,ht⟩:=hexF_close s false 0 [] false h
 have:hexT s=t:=by unfold hexT;rw [ht []]
 rw [this];exact ht r
def needHex (n:Int):Bool:=n == 40 || n == 41 || n == 60 || n == 62 || n == 91 || n == 93 || n == 123 || n == 125 || n == 47 || n == 37 || n == 35 || decide (n < 33) || decide (126 < n)
def hexDig (n:Nat):UInt8:=if n < 10 then UInt8.ofNat (48 + n) else UInt8.ofNat (87 + n)
def encN:By→By
 | []=>[]
 | c::l=>if needHex (c.toNat:Int) then 35::hexDig (c.toNat / 16)::hexDig (c.toNat % 16)::encN l else c::encN l
theorem hexDig_ok:∀ n:Nat,n < 16→isReg ((hexDig n).toNat:Int)=true∧isPlain ((hexDig n).toNat:Int)=true∧hexVal ((hexDig n).toNat:Int)=n:=by decide
theorem encN_chars:∀ (l:By),∀ c∈encN l,isReg (c.toNat:Int)=true∧isPlain (c.toNat:Int)=true:=by
 intro l
 induction l with
 | nil=>intro c hc;simp [encN] at hc
 | cons d l ih =>
  intro c hc
  have hd:=d.toNat_lt
  simp only [encN] at hc
  split at hc
  ·rename_i hn
   simp only [List.mem_cons] at hc
   rcases hc with rfl | rfl | rfl | hc
   ·decide
   ·have:=hexDig_ok (d.toNat / 16) (by omega);exact ⟨this.1,this.2.1⟩
   ·have:=hexDig_ok (d.toNat % 16) (by omega);exact ⟨this.1,this.2.1⟩
   ·exact ih c hc
  ·rename_i hn
   rcases List.mem_cons.1 hc with rfl | hc
   ·simp [needHex] at hn
    simp [isReg,isPlain,isWhite,isDelim]
    omega
   ·exact ih c hc
theorem ub_self (c:UInt8):ub (c.toNat:Int)=c:=by unfold ub;simp
theorem nameB_enc:∀ (l out:By),(∀ c∈l,(c.toNat:Int)≠0)→nameB (encN l) out=some (out ++ l):=by
 intro l
 induction l with
 | nil=>intro out _;simp [encN,nameB]
 | cons d l ih =>
  intro out h
  have hd:=d.toNat_lt
  have h0:=h d (by simp)
  have hl:∀ c∈l,(c.toNat:Int)≠0:=fun c hc=>h c (by simp [hc])
  simp only [encN]
  split
  ·rename_i hn
   have a1:=(hexDig_ok (d.toNat / 16) (by omega)).2.2
   have a2:=(hexDig_ok (d.toNat % 16) (by omega)).2.2
   rw [nameB_3 (by decide),a1,a2]
   have e:16 * ((d.toNat / 16:Nat):Int) + ((d.toNat % 16:Nat):Int)=(d.toNat:Int):=by omega
   rw [if_neg (by omega),e,if_neg (by simpa using h0),ub_self,ih _ hl]
   simp
  ·rename_i hn
   have:((d.toNat:Int) != 35)=true:=by
    simp [needHex] at hn
    simp;omega
   rw [nameB_plain this,ih _ hl]
   simp
def EndW (r:By):Prop:=∀ c∈r.head?,isReg (c.toNat:Int)=false∧(c.toNat:Int)≠123∧(c.toNat:Int)≠125∧(c.toNat:Int)≠41
theorem word_app {r:By} (hr:EndW r):∀ (w:By),(∀ c∈w,isReg (c.toNat:Int)=true∧isPlain (c.toNat:Int)=true)→wordT (w ++ r)=w∧wordR (w ++ r)=r∧wordO (w ++ r) false=false:=by
 intro w
 induction w with
 | nil =>
  intro _
  cases r with
  | nil=>simp [wordT,wordR,wordO]
  | cons c r =>
   obtain ⟨h1,h2,h3,h4⟩:=hr c (by simp)
   simp only [List.nil_append,wordT,wordR,wordO,List.takeWhile_cons,List.dropWhile_cons,h1]
   simp
   omega
 | cons c w ih =>
  intro h
  obtain ⟨h1,h2,h3⟩:=ih (fun d hd=>h d (by simp [hd]))
  obtain ⟨h4,h5⟩:=h c (by simp)
  refine ⟨?_,?_,?_⟩
  ·unfold wordT at h1 ⊢
   rw [List.cons_append,List.takeWhile_cons,if_pos h4,h1]
  ·unfold wordR at h2 ⊢
   rw [List.cons_append,List.dropWhile_cons,if_pos h4,h2]
  ·rw [List.cons_append]
   simp only [wordO,h4,if_true,h5]
   exact h3
theorem parse_snoc:∀ (l:By) (acc v:Nat) (c:UInt8),Lib.parseUint10 acc l=.ok v→48≤c.toNat∧c.toNat≤57→v < 10000000000→Lib.parseUint10 acc (l ++ [c])=.ok (v * 10 + (c.toNat - 48)):=by
 intro l
 induction l with
 | nil =>
  intro acc v c h hc hv
  simp only [Lib.parseUint10] at h
  injection h with h
  subst h
  simp only [List.nil_append,Lib.parseUint10]
  rw [if_pos hc,if_neg (by omega),if_neg (by omega)]
 | cons d l ih =>
  intro acc v c h hc hv
  simp only [List.cons_append,Lib.parseUint10] at h ⊢
  split at h
  ·rename_i hd
   rw [if_pos hd]
   split at h
   ·cases h
   ·rename_i h1
    rw [if_neg h1]
    split at h
    ·cases h
    ·rename_i h2
     rw [if_neg h2]
     exact ih _ _ _ h hc hv
  ·cases h
theorem dec_dig (u:Nat):∀ c∈Lib.decDigits u,48≤c.toNat∧c.toNat≤57:=by
 induction u using Nat.strongRecOn with
 | _ u ih =>
  intro c hc
  rw [Lib.decDigits] at hc
  split at hc
  ·simp only [List.mem_singleton] at hc;subst hc
   rw [UInt8.toNat_ofNat'];omega
  ·rcases List.mem_append.1 hc with hc | hc
   ·exact ih (u / 10) (by omega) c hc
   ·simp only [List.mem_singleton] at hc;subst hc
    rw [UInt8.toNat_ofNat'];omega
theorem dec_ne (u:Nat):Lib.decDigits u≠[]:=by
 rw [Lib.decDigits]
 split<;>simp
theorem dec_len:∀ (k u:Nat),u < 10 ^ (k + 1)→(Lib.decDigits u).length≤k + 1:=by
 intro k
 induction k with
 | zero=>intro u h;rw [Lib.decDigits,dif_pos (by simpa using h)];simp
 | succ k ih =>
  intro u h
  rw [Lib.decDigits]
  split
  ·simp
  ·have:=ih (u / 10) (by rw [Nat.pow_succ] at h;omega)
   simp;omega
theorem dec_parse (u:Nat):u < 10000000000→Lib.parseUint10 0 (Lib.decDigits u)=.ok u:=by
 induction u using Nat.strongRecOn with
 | _ u ih =>
  intro h
  rw [Lib.decDigits]
  split
  ·rename_i h10
   have e:(UInt8.ofNat (48 + u)).toNat=48 + u:=by rw [UInt8.toNat_ofNat'];omega
   simp only [Lib.parseUint10,e]
   rw [if_pos (by omega),if_neg (by omega),if_neg (by omega)]
   congr 1;omega
  ·rename_i h10
   have e:(UInt8.ofNat (48 + u % 10)).toNat=48 + u % 10:=by rw [UInt8.toNat_ofNat'];omega
   rw [parse_snoc _ _ _ _ (ih (u / 10) (by omega) (by omega)) (by omega) (by omega),e]
   congr 1;omega
theorem digs_reg {c:UInt8} (h:48≤c.toNat∧c.toNat≤57):isReg (c.toNat:Int)=true∧isPlain (c.toNat:Int)=true:=by
 simp [isReg,isPlain,isWhite,isDelim];omega
theorem dec_strip (u:Nat):numStrip (Lib.decDigits u)=Lib.decDigits u:=by
 have h:=dec_dig u
 cases hd:Lib.decDigits u with
 | nil=>rfl
 | cons c l =>
  have:=h c (by rw [hd];simp)
  rw [atoi_strip,if_neg (by omega)]
theorem itoa_chars (n:Int):∀ c∈Lib.itoa n,isReg (c.toNat:Int)=true∧isPlain (c.toNat:Int)=true∧c≠82∧c≠37:=by
 intro c hc
 have key:∀ u,c∈Lib.decDigits u→isReg (c.toNat:Int)=true∧isPlain (c.toNat:Int)=true∧c≠82∧c≠37:=fun u h=>by
  have h1:=dec_dig u c h
  have h2:=digs_reg h1
  refine ⟨h2.1,h2.2,?_,?_⟩<;>(intro e;subst e;revert h1;decide)
 unfold Lib.itoa at hc
 split at hc
 ·rcases List.mem_cons.1 hc with rfl | hc
  ·decide
  ·exact key _ hc
 ·exact key _ hc
theorem itoa_ne (n:Int):Lib.itoa n≠[]:=by
 unfold Lib.itoa
 split
 ·simp
 ·exact dec_ne _
theorem itoa_num (pf:By→Nat) (n:Int) (h1:-2147483648≤n) (h2:n≤2147483647):numF pf (Lib.itoa n)=(2,n,0,0):=by
 have key:∀ u:Nat,u≤2147483648→(Lib.decDigits u).length≤10∧1≤(Lib.decDigits u).length∧(∀ c∈Lib.decDigits u,isDig (c.toNat:Int)=true)∧Lib.parseMag (Lib.decDigits u)=.ok u:=fun u hu=>by
  refine ⟨dec_len 9 u (by omega),List.length_pos_iff.2 (dec_ne u),fun c hc=>?_,?_⟩
  ·have:=dec_dig u c hc;simp [isDig];omega
  ·unfold Lib.parseMag;rw [if_neg (dec_ne u)];exact dec_parse u (by omega)
 by_cases hn:n < 0
 ·obtain ⟨k1,k2,k3,k4⟩:=key n.natAbs (by omega)
  have e:Lib.itoa n=45::Lib.decDigits n.natAbs:=by unfold Lib.itoa;rw [if_pos hn]
  have es:numStrip (45::Lib.decDigits n.natAbs)=Lib.decDigits n.natAbs:=by rw [atoi_strip,if_pos (by decide)]
  have ea:Lib.atoiAll (45::Lib.decDigits n.natAbs)=.ok n:=by
   simp only [Lib.atoiAll]
   rw [if_pos (by decide),k4]
   simp only
   rw [if_neg (by simp),if_neg (by omega)]
   congr 1
   rw [if_pos (by decide)];omega
  unfold numF
  rw [e,es,numScan_digs _ _ _ k3,ea]
  simp only
  rw [if_neg (by simp only [beq_iff_eq];omega),if_neg (by omega),if_neg (by simp),if_neg (by omega)]
 ·obtain ⟨k1,k2,k3,k4⟩:=key n.toNat (by omega)
  have e:Lib.itoa n=Lib.decDigits n.toNat:=by unfold Lib.itoa;rw [if_neg hn]
  have es:=dec_strip n.toNat
  have ea:Lib.atoiAll (Lib.decDigits n.toNat)=.ok n:=by
   have hd:=dec_dig n.toNat
   cases hl:Lib.decDigits n.toNat with
   | nil=>exact absurd hl (dec_ne _)
   | cons c l =>
    have hc:=hd c (by rw [hl];simp)
    rw [hl] at k4
    simp only [Lib.atoiAll]
    rw [if_neg (by omega),k4]
    simp only
    rw [if_neg (by omega),if_neg (by omega)]
    congr 1
    rw [if_neg (by omega)];omega
  unfold numF
  rw [e,es,numScan_digs _ _ _ k3,ea]
  simp only
  rw [if_neg (by simp only [beq_iff_eq];omega),if_neg (by omega),if_neg (by simp),if_neg (by omega)]
theorem real_num (pf:By→Nat) {t:By} (h:numOk t):numF pf t=(3,0,pf t,0):=by
 obtain ⟨d,a,h1,h2,h3,h4⟩:=h
 unfold numF
 rw [h1]
 simp only
 rw [if_neg (by simp only [beq_iff_eq];omega),if_neg (by omega),if_pos (by simp)]
theorem real_chars {t:By} (h:numOk t):t≠[]∧∀ c∈t,isReg (c.toNat:Int)=true∧isPlain (c.toNat:Int)=true∧c≠82∧c≠116∧c≠102∧c≠110:=by
 obtain ⟨d,a,h1,h2,h3,h4⟩:=h
 have key:∀ c:UInt8,(isDig (c.toNat:Int)=true∨(c.toNat:Int)=46∨(c.toNat:Int)=43∨(c.toNat:Int)=45)→isReg (c.toNat:Int)=true∧isPlain (c.toNat:Int)=true∧c≠82∧c≠116∧c≠102∧c≠110:=fun c hc=>by
  simp only [isDig,Bool.and_eq_true,decide_eq_true_eq] at hc
  refine ⟨by simp [isReg,isWhite,isDelim];omega,by simp [isPlain];omega,?_,?_,?_,?_⟩<;>(intro e;subst e;revert hc;decide)
 cases t with
 | nil=>simp [numStrip,numScan] at h1
 | cons c t =>
  refine ⟨by simp,fun e he=>key e ?_⟩
  have hch:=numScan_chars _ _ _ _ _ h1
  rw [atoi_strip] at hch
  split at hch
  ·rename_i hs
   rcases List.mem_cons.1 he with rfl | he
   ·omega
   ·have:=hch e he;rcases this with h | h
    ·exact .inl h
    ·exact .inr (.inl h)
  ·have:=hch e he;rcases this with h | h
   ·exact .inl h
   ·exact .inr (.inl h)
end Go.Proofs.YtfkecmlmnhbmoaaGreatDoor
namespace Go.Proofs.YtfkecmlmnhbmoaaGreatDoor
open Go Go.RowKit
set_option maxRecDepth 100000 in
set_option maxHeartbeats 40000000 in
theorem l10_any (w:World) (p:Int) (h1:-10000≤p) (h2:p≤10000):Calls Tryz.prog 120 #[.int .i64 p] w fun e w'=>e=.returned (.int .i64 (p * 78913 / 262144))∧w'=w:=by
 go_enter Tryz.func120,Tryz.ntmps120
 go_wp2_with fail
 go_ret
 exact ⟨rfl,rfl⟩
set_option maxRecDepth 100000 in
set_option maxHeartbeats 40000000 in
theorem umin_ex (x:Int) (h0:0≤x) (h1:x≤18446744073709551615):∃ u:Int,(0≤u∧u≤18446744073709551615)∧∀ w:World,Calls Tryz.prog 169 #[.int .u64 x] w fun e w'=>e=.returned (.int .u64 u)∧w'=w:=by
 apply Exists.intro
 refine ⟨?_,fun w=>?_⟩
 rotate_left
 go_enter Tryz.func169,Tryz.ntmps169
 go_wp2_with fail
 go_ret
 exact ⟨rfl,rfl⟩
 rw [IntKind.wrap_u64];omega
set_option maxRecDepth 100000 in
set_option maxHeartbeats 40000000 in
theorem round_ex (u:Int) (h0:0≤u) (h1:u≤18446744073709551615):∃ v:Int,(0≤v∧v≤18446744073709551615)∧∀ w:World,Calls Tryz.prog 166 #[.int .u64 u] w fun e w'=>e=.returned (.int .u64 v)∧w'=w:=by
 apply Exists.intro
 refine ⟨?_,fun w=>?_⟩
 rotate_left
 go_enter Tryz.func166,Tryz.ntmps166
 go_wp2_with fail
 go_ret
 exact ⟨rfl,rfl⟩
 rw [IntKind.wrap_u64];omega
set_option maxRecDepth 100000 in
set_option maxHeartbeats 40000000 in
theorem b2u_t (w:World):Calls Tryz.prog 207 #[.bool true] w fun e w'=>e=.returned (.int .u64 1)∧w'=w:=by
 go_enter Tryz.func207,Tryz.ntmps207
 go_wp2_with fail
 go_ret
 exact ⟨rfl,rfl⟩
set_option maxRecDepth 100000 in
set_option maxHeartbeats 40000000 in
theorem b2u_f (w:World):Calls Tryz.prog 207 #[.bool false] w fun e w'=>e=.returned (.int .u64 0)∧w'=w:=by
 go_enter Tryz.func207,Tryz.ntmps207
 go_wp2_with fail
 go_ret
 exact ⟨rfl,rfl⟩
set_option maxRecDepth 100000 in
set_option maxHeartbeats 40000000 in
theorem div_ex (u:Int) (h0:0≤u) (h1:u≤18446744073709551615):∃ v:Int,(0≤v∧v≤18446744073709551615)∧∀ w:World,Calls Tryz.prog 170 #[.int .u64 u,.int .u64 10] w fun e w'=>e=.returned (.int .u64 v)∧∃ n,w'=w.drewN n:=by
 rcases Bool.eq_false_or_eq_true (u % 10 != 0) with hb | hb
 all_goals
  apply Exists.intro
  refine ⟨?_,fun w=>?_⟩
  rotate_left
  go_enter Tryz.func170,Tryz.ntmps170
  go_wp2_with fail
  go_quiet (first | (go_at_call 207;with_reducible first | exact Calls.quiet_of_same (b2u_t _) | exact quiet_plus (b2u_t _) | exact Calls.quiet_of (b2u_t _) | exact quiet_plusN (b2u_t _)) | (go_at_call 207;with_reducible first | exact Calls.quiet_of_same (b2u_f _) | exact quiet_plus (b2u_f _) | exact Calls.quiet_of (b2u_f _) | exact quiet_plusN (b2u_f _)))
  go_wp2_with fail
  go_ret
  exact ⟨rfl,_,rfl⟩
  exact or_range _ _
end Go.Proofs.YtfkecmlmnhbmoaaGreatDoor
namespace Go.Proofs.YtfkecmlmnhbmoaaGreatDoor
open Go Go.RowKit
set_option maxRecDepth 100000 in
set_option maxHeartbeats 40000000 in
theorem us2_ex (x hi lo s:Nat) (hx:x < 18446744073709551616) (hh:hi < 18446744073709551616) (hl:lo < 18446744073709551616) (hs:s < 64) :
  ∃ u:Int,(0≤u∧u≤18446744073709551615)∧∀ (w:World) (pb:Nat),w.cell? ⟨pb,0,none⟩=some (.int .u64 hi)→w.cell? ⟨pb,1,none⟩=some (.int .u64 lo)→w.cell? ⟨pb,2,none⟩=some (.int .i64 s) →
  Calls Tryz.prog 162 #[.int .u64 x,.pointer (some ⟨pb,0,none⟩)] w fun e w'=>e=.returned (.int .u64 u)∧∃ n,w'=w.drewN n:=by
 have hbs:bits BinOp.and IntKind.i64 (s:Int) 63=(s:Int):=by
  have key:∀ t:Nat,t < 64→bits BinOp.and IntKind.i64 (t:Int) 63=(t:Int):=by decide
  exact key s hs
 obtain ⟨H,hH⟩:∃ H,H=x * hi / 18446744073709551616:=⟨_,rfl⟩
 obtain ⟨M,hM⟩:∃ M,M=x * hi % 18446744073709551616:=⟨_,rfl⟩
 obtain ⟨M2,hM2⟩:∃ M2,M2=x * lo / 18446744073709551616:=⟨_,rfl⟩
 have hHb:H < 18446744073709551616:=by rw [hH];exact Nat.div_lt_of_lt_mul (Nat.mul_lt_mul'' hx hh)
 have hMb:M < 18446744073709551616:=by rw [hM];exact Nat.mod_lt _ (by decide)
 have hM2b:M2 < 18446744073709551616:=by rw [hM2];exact Nat.div_lt_of_lt_mul (Nat.mul_lt_mul'' hx hl)
 have HH:=Lib.hid hH;clear hH
 have HM:=Lib.hid hM;clear hM
 have HM2:=Lib.hid hM2;clear hM2
 rcases Bool.eq_false_or_eq_true (IntKind.u64.wrap ((H:Int) / 2 ^ s * 2 ^ s) != (H:Int)) with hc1 | hc1
 ·apply Exists.intro
  refine ⟨?_,fun w pb c0 c1 c2=>?_⟩
  rotate_left
  go_enter Tryz.func162,Tryz.ntmps162
  go_wp2_with fail
  refine (Tryz.bits_Mul64 x hi hx hh _).mono ?_
  rintro e w1 ⟨rfl,hw⟩
  subst w1
  rw [←HH.out,←HM.out]
  go_wp2_with fail
  go_ret
  exact ⟨rfl,0,rfl⟩
  exact or_range _ _
 ·by_cases hlt:M < M2
  ·rcases Bool.eq_false_or_eq_true (decide (1 < IntKind.u64.wrap ((M:Int) - (M2:Int)))) with hd | hd
   all_goals
    apply Exists.intro
    refine ⟨?_,fun w pb c0 c1 c2=>?_⟩
    rotate_left
    go_enter Tryz.func162,Tryz.ntmps162
    go_wp2_with fail
    refine (Tryz.bits_Mul64 x hi hx hh _).mono ?_
    rintro e w1 ⟨rfl,hw⟩
    subst w1
    rw [←HH.out,←HM.out]
    go_wp2_with fail
    refine (Tryz.bits_Mul64 x lo hx hl _).mono ?_
    rintro e w1 ⟨rfl,hw⟩
    subst w1
    rw [←HM2.out]
    go_wp2_with fail
    first
     | refine (b2_t _).mono ?_
     | refine (b2_f _).mono ?_
    rintro e w1 ⟨rfl,hw⟩
    subst w1
    go_wp2_with fail
    go_quiet ((go_at_call 151;with_reducible first | exact Calls.quiet_of_same (b2_t _) | exact Calls.quiet_of_same (b2_f _)))
    go_wp2_with fail
    go_ret
    exact ⟨rfl,_,rfl⟩
    exact or_range _ _
  ·rcases Bool.eq_false_or_eq_true (decide (1 < (M:Int) - (M2:Int))) with hd | hd
   all_goals
    apply Exists.intro
    refine ⟨?_,fun w pb c0 c1 c2=>?_⟩
    rotate_left
    go_enter Tryz.func162,Tryz.ntmps162
    go_wp2_with fail
    refine (Tryz.bits_Mul64 x hi hx hh _).mono ?_
    rintro e w1 ⟨rfl,hw⟩
    subst w1
    rw [←HH.out,←HM.out]
    go_wp2_with fail
    refine (Tryz.bits_Mul64 x lo hx hl _).mono ?_
    rintro e w1 ⟨rfl,hw⟩
    subst w1
    rw [←HM2.out]
    go_wp2_with fail
    first
     | refine (b2_t _).mono ?_
     | refine (b2_f _).mono ?_
    rintro e w1 ⟨rfl,hw⟩
    subst w1
    go_wp2_with fail
    go_quiet ((go_at_call 151;with_reducible first | exact Calls.quiet_of_same (b2_t _) | exact Calls.quiet_of_same (b2_f _)))
    go_wp2_with fail
    go_ret
    exact ⟨rfl,_,rfl⟩
    exact or_range _ _
end Go.Proofs.YtfkecmlmnhbmoaaGreatDoor
namespace Go.Proofs.YtfkecmlmnhbmoaaGreatDoor
open Go Go.RowKit
theorem g12:Tryz.prog.globalNamed "internal/strconv.uint64pow10" = some 12:=by kernel_rfl
def FwC (W0:World) (m:Nat) (e n:Int) (D P:Int):Prop:=∀ w:World,Env W0 w→Calls Tryz.prog 121 #[.int .u64 m,.int .i64 e,.int .i64 n,.int .i64 12,.int .u8 102] w fun e w'=>e=.returned (.tuple #[.int .u64 D,.int .i64 (-P)])∧w.grownBy w' none
set_option maxRecDepth 100000 in
set_option maxHeartbeats 40000000 in
theorem fw_ex (W0:World) (hF:FInit2 W0) (hT:Lib.TabIs Tryz.prog W0 "internal/strconv.uint64pow10" .u64 Lib.pow10Tab) (m:Nat) (hm:m < 18446744073709551616) (ex p0:Int) (s nn:Nat) (hn0:1≤nn) (hn18:nn≤18) (he1:-1000≤ex) (he2:ex≤1000)
  (hp0:(nn:Int) - 1 - (ex + 63) * 78913 / 262144=p0) (hp1:11≤p0) (hp2:p0≤13) (hs:-(ex + p0 * 108853 / 32768 + 3)=s) (hs64:s < 64) :
  ∃ D P:Int,0≤D∧D≤18446744073709551615∧10≤P∧P≤12∧FwC W0 m ex nn D P:=by
 obtain ⟨i,hi⟩:∃ i:Nat,p0 + 348=i:=⟨(p0 + 348).toNat,by omega⟩
 obtain ⟨hi9,lo9,hh,hl,t0,t1⟩:=hF.p10 i (by omega)
 have hc12:∃ v:Int,0≤v∧v≤18446744073709551615∧W0.cell? ⟨12,nn,none⟩=some (.int .u64 v):=by
  have key:∀ j:Nat,j < 20→0≤Lib.pow10Tab.getD j 0∧Lib.pow10Tab.getD j 0≤18446744073709551615:=by decide
  exact ⟨_,(key nn (by omega)).1,(key nn (by omega)).2,hT.cell g12 nn (by rw [Lib.pow10Tab_length];omega)⟩
 obtain ⟨pv,hpv0,hpv1,hpc⟩:=hc12
 obtain ⟨u,⟨hu0,hu1⟩,hus⟩:=us2_ex m hi9 lo9 s hm hh hl hs64
 obtain ⟨um,⟨hm0,hm1⟩,hum⟩:=umin_ex pv hpv0 hpv1
 obtain ⟨lp,hlp⟩:∃ lp,lp=p0 * 108853 / 32768:=⟨_,rfl⟩
 rw [←hlp] at hs
 have hlp3:-400≤lp:=by omega
 have hlp4:lp≤100:=by omega
 have h21:21 < W0.heap.size:=World.block_lt_of_cell? _ _ t0
 have Hlp:=Lib.hid hlp
 have Hs:=Lib.hid hs
 have H21:=Lib.hid h21
 have HT0:=Lib.hid t0
 have HT1:=Lib.hid t1
 have Hus:=Lib.hid hus
 have Hum:=Lib.hid hum
 have Hpc:=Lib.hid hpc
 clear hlp hs h21 t0 t1 hus hum hpc hF hT
 rcases Bool.eq_false_or_eq_true (decide (um≤u)) with hge | hge
 ·obtain ⟨u1,⟨ha0,ha1⟩,hdv⟩:=div_ex u hu0 hu1
  have Hdv:=Lib.hid hdv
  clear hdv
  obtain ⟨v,⟨hv0,hv1⟩,hrn⟩:=round_ex u1 ha0 ha1
  have Hrn:=Lib.hid hrn
  clear hrn
  refine ⟨v,p0 - 1,hv0,hv1,by omega,by omega,fun w hE=>?_⟩
  have hwz:=hE.1
  have hnn1:(nn:Int) < 20:=by omega
  go_enter Tryz.func121,Tryz.ntmps121
  go_wp2_with fail
  refine (l10_any _ (ex + 63) (by omega) (by omega)).mono ?_
  rintro e w1 ⟨rfl,hw⟩
  subst w1
  go_wp2_with fail
  refine (l2p_any _ p0 (by omega) (by omega)).mono ?_
  rintro e w1 ⟨rfl,hw⟩
  subst w1
  rw [←Hlp.out]
  go_wp2_with fail
  have hnew:=heap_alloc_new w (.cells #[.int .u64 0,.int .u64 0,.int .i64 0] 240 (0,0))
  refine (pre_any _ w.heap.size ex p0 lp i hi9 lo9 240 _ _ _ hi (by omega) (by have:=H21.out;omega) (by rw [World.cell?_alloc_past _ _ _ (by have:=H21.out;simp;omega)];exact hE.cell HT0.out) (by rw [World.cell?_alloc_past _ _ _ (by have:=H21.out;simp;omega)];exact hE.cell HT1.out) (by exact hnew) (by omega) (by omega) (by omega) (by omega)).mono ?_
  rintro e w1 ⟨rfl,hb1,hg1⟩
  rw [Hs.out] at hb1
  have d0:w1.cell? ⟨w.heap.size,0,none⟩=some (.int .u64 hi9):=by simp [World.cell?,hb1]
  have d1:w1.cell? ⟨w.heap.size,1,none⟩=some (.int .u64 lo9):=by simp [World.cell?,hb1]
  have d2:w1.cell? ⟨w.heap.size,2,none⟩=some (.int .i64 s):=by simp [World.cell?,hb1]
  have HG1:=Lib.hid (show w.grownBy w1 none from gr_noneThen (gr_alloc (World.grownBy.refl w none) _) hg1 (fun j hj=>by injection hj with hj;omega))
  clear hg1 hb1 hnew
  go_wp2_with fail
  refine (Hus.out w1 w.heap.size d0 d1 d2).mono ?_
  rintro e w2 ⟨rfl,k1,rfl⟩
  have hpw:(w1.drewN k1).cell? ⟨12,nn,none⟩=some (.int .u64 pv):=(hE.grown0 HG1.out).cell Hpc.out
  replace HG1:=Lib.hid (show w.grownBy (w1.drewN k1) none from gr_drewN HG1.out _)
  generalize w1.drewN k1=w2 at *
  clear d0 d1 d2
  go_wp2_with fail
  refine (Hum.out _).mono ?_
  rintro e w3 ⟨rfl,hw⟩
  subst w3
  go_wp2_with fail
  refine (Hdv.out _).mono ?_
  rintro e w3 ⟨rfl,k2,rfl⟩
  replace HG1:=Lib.hid (show w.grownBy (w2.drewN k2) none from gr_drewN HG1.out _)
  generalize w2.drewN k2=w3 at *
  go_wp2_with fail
  go_loopg [11,13] 0 (fun g t11 t13 wr=>t11=.int .i64 (p0 - 1)∧t13=.int .u64 u1∧w3=wr)
  case atStart=>exact ⟨rfl,rfl,rfl⟩
  case round =>
   obtain ⟨rfl,rfl,rfl⟩:=hrel
   have hlt:¬(12 < p0 - 1):=by omega
   go_wp2_with fail
   refine (Hrn.out _).mono ?_
   rintro e w4 ⟨rfl,hw⟩
   subst w4
   go_wp2_with fail
   go_ret2
   exact ⟨rfl,HG1.out⟩
 ·by_cases h13:p0=13
  ·have h13a:13≤p0:=by omega
   clear h13
   obtain ⟨u2,⟨ha0,ha1⟩,hdv⟩:=div_ex u hu0 hu1
   have Hdv:=Lib.hid hdv
   clear hdv
   obtain ⟨v,⟨hv0,hv1⟩,hrn⟩:=round_ex u2 ha0 ha1
   have Hrn:=Lib.hid hrn
   clear hrn
   refine ⟨v,12,hv0,hv1,by omega,by omega,fun w hE=>?_⟩
   have hwz:=hE.1
   have hnn1:(nn:Int) < 20:=by omega
   go_enter Tryz.func121,Tryz.ntmps121
   go_wp2_with fail
   refine (l10_any _ (ex + 63) (by omega) (by omega)).mono ?_
   rintro e w1 ⟨rfl,hw⟩
   subst w1
   go_wp2_with fail
   refine (l2p_any _ p0 (by omega) (by omega)).mono ?_
   rintro e w1 ⟨rfl,hw⟩
   subst w1
   rw [←Hlp.out]
   go_wp2_with fail
   have hnew:=heap_alloc_new w (.cells #[.int .u64 0,.int .u64 0,.int .i64 0] 240 (0,0))
   refine (pre_any _ w.heap.size ex p0 lp i hi9 lo9 240 _ _ _ hi (by omega) (by have:=H21.out;omega) (by rw [World.cell?_alloc_past _ _ _ (by have:=H21.out;simp;omega)];exact hE.cell HT0.out) (by rw [World.cell?_alloc_past _ _ _ (by have:=H21.out;simp;omega)];exact hE.cell HT1.out) (by exact hnew) (by omega) (by omega) (by omega) (by omega)).mono ?_
   rintro e w1 ⟨rfl,hb1,hg1⟩
   rw [Hs.out] at hb1
   have d0:w1.cell? ⟨w.heap.size,0,none⟩=some (.int .u64 hi9):=by simp [World.cell?,hb1]
   have d1:w1.cell? ⟨w.heap.size,1,none⟩=some (.int .u64 lo9):=by simp [World.cell?,hb1]
   have d2:w1.cell? ⟨w.heap.size,2,none⟩=some (.int .i64 s):=by simp [World.cell?,hb1]
   have HG1:=Lib.hid (show w.grownBy w1 none from gr_noneThen (gr_alloc (World.grownBy.refl w none) _) hg1 (fun j hj=>by injection hj with hj;omega))
   clear hg1 hb1 hnew
   go_wp2_with fail
   refine (Hus.out w1 w.heap.size d0 d1 d2).mono ?_
   rintro e w2 ⟨rfl,k1,rfl⟩
   have hpw:(w1.drewN k1).cell? ⟨12,nn,none⟩=some (.int .u64 pv):=(hE.grown0 HG1.out).cell Hpc.out
   replace HG1:=Lib.hid (show w.grownBy (w1.drewN k1) none from gr_drewN HG1.out _)
   generalize w1.drewN k1=w2 at *
   clear d0 d1 d2
   go_wp2_with fail
   refine (Hum.out _).mono ?_
   rintro e w3 ⟨rfl,hw⟩
   subst w3
   go_wp2_with fail
   go_loopg [11,13] 1 (fun g t11 t13 wr=>∃ (p:Int) (z:Int),t11=.int .i64 p∧t13=.int .u64 z∧w.grownBy wr none∧((p=p0∧z=u∧g=1)∨(p=12∧z=u2∧g=0)))
   case atStart=>exact ⟨_,_,rfl,rfl,HG1.out,.inl ⟨rfl,rfl,rfl⟩⟩
   case round =>
    obtain ⟨p,z,rfl,rfl,hgw,h⟩:=hrel
    have Hgw:=Lib.hid hgw
    clear hgw HG1
    rcases h with ⟨hp,rfl,hg⟩ | ⟨rfl,rfl,hg⟩
    ·have Hg:=Lib.hid hg
     have hgt:12 < p:=by omega
     have Hp:=Lib.hid hp
     have hple:p≤13:=by omega
     clear hp
     clear hg
     go_wp2_with fail
     refine (Hdv.out _).mono ?_
     rintro e w3 ⟨rfl,k2,rfl⟩
     go_wp2_with fail
     go_roundg 0
     case measure=>rw [Hg.out];omega
     case rel=>exact ⟨_,_,rfl,rfl,gr_drewN Hgw.out _,.inr ⟨by have:=Hp.out;omega,rfl,rfl⟩⟩
    ·go_wp2_with fail
     refine (Hrn.out _).mono ?_
     rintro e w4 ⟨rfl,hw⟩
     subst w4
     go_wp2_with fail
     go_ret2
     exact ⟨rfl,Hgw.out⟩
  ·have h13a:p0≤12:=by omega
   clear h13
   obtain ⟨v,⟨hv0,hv1⟩,hrn⟩:=round_ex u hu0 hu1
   have Hrn:=Lib.hid hrn
   clear hrn
   refine ⟨v,p0,hv0,hv1,by omega,by omega,fun w hE=>?_⟩
   have hwz:=hE.1
   have hnn1:(nn:Int) < 20:=by omega
   go_enter Tryz.func121,Tryz.ntmps121
   go_wp2_with fail
   refine (l10_any _ (ex + 63) (by omega) (by omega)).mono ?_
   rintro e w1 ⟨rfl,hw⟩
   subst w1
   go_wp2_with fail
   refine (l2p_any _ p0 (by omega) (by omega)).mono ?_
   rintro e w1 ⟨rfl,hw⟩
   subst w1
   rw [←Hlp.out]
   go_wp2_with fail
   have hnew:=heap_alloc_new w (.cells #[.int .u64 0,.int .u64 0,.int .i64 0] 240 (0,0))
   refine (pre_any _ w.heap.size ex p0 lp i hi9 lo9 240 _ _ _ hi (by omega) (by have:=H21.out;omega) (by rw [World.cell?_alloc_past _ _ _ (by have:=H21.out;simp;omega)];exact hE.cell HT0.out) (by rw [World.cell?_alloc_past _ _ _ (by have:=H21.out;simp;omega)];exact hE.cell HT1.out) (by exact hnew) (by omega) (by omega) (by omega) (by omega)).mono ?_
   rintro e w1 ⟨rfl,hb1,hg1⟩
   rw [Hs.out] at hb1
   have d0:w1.cell? ⟨w.heap.size,0,none⟩=some (.int .u64 hi9):=by simp [World.cell?,hb1]
   have d1:w1.cell? ⟨w.heap.size,1,none⟩=some (.int .u64 lo9):=by simp [World.cell?,hb1]
   have d2:w1.cell? ⟨w.heap.size,2,none⟩=some (.int .i64 s):=by simp [World.cell?,hb1]
   have HG1:=Lib.hid (show w.grownBy w1 none from gr_noneThen (gr_alloc (World.grownBy.refl w none) _) hg1 (fun j hj=>by injection hj with hj;omega))
   clear hg1 hb1 hnew
   go_wp2_with fail
   refine (Hus.out w1 w.heap.size d0 d1 d2).mono ?_
   rintro e w2 ⟨rfl,k1,rfl⟩
   have hpw:(w1.drewN k1).cell? ⟨12,nn,none⟩=some (.int .u64 pv):=(hE.grown0 HG1.out).cell Hpc.out
   replace HG1:=Lib.hid (show w.grownBy (w1.drewN k1) none from gr_drewN HG1.out _)
   generalize w1.drewN k1=w2 at *
   clear d0 d1 d2
   go_wp2_with fail
   refine (Hum.out _).mono ?_
   rintro e w3 ⟨rfl,hw⟩
   subst w3
   go_wp2_with fail
   go_loopg [11,13] 0 (fun g t11 t13 wr=>t11=.int .i64 p0∧t13=.int .u64 u∧w2=wr)
   case atStart=>exact ⟨rfl,rfl,rfl⟩
   case round =>
    obtain ⟨rfl,rfl,rfl⟩:=hrel
    have hlt:¬(12 < p0):=by omega
    go_wp2_with fail
    refine (Hrn.out _).mono ?_
    rintro e w4 ⟨rfl,hw⟩
    subst w4
    go_wp2_with fail
    go_ret2
    exact ⟨rfl,HG1.out⟩
end Go.Proofs.YtfkecmlmnhbmoaaGreatDoor
