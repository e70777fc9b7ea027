/- The texts A9 E0 F12 P5 B1 of the workbench, laid together. -/
import Derived.Test.YtfkecmlmnhbmoaaGreatDoorProg
import Derived.WalkKit
import Derived.WalkLawsBesides
import Derived.WalkSpells
import Derived.BigQuiet
import Derived.BigRegion
import Derived.Deep.QuietTactic
import Derived.Deep.RegionHeld3
import Derived.Deep.LoopGhost
import Derived.StillTailTactics
import Derived.Lib.Hide
import Derived.Laws.EntriesVeiled
import Derived.Laws.Bits64b
import Derived.Test.YtfkecmlmnhbmoaaGreatDoorY7
import Derived.Test.YtfkecmlmnhbmoaaGreatDoorY8
set_option linter.unusedVariables false
set_option linter.unusedSimpArgs false
namespace Go.Proofs.YtfkecmlmnhbmoaaGreatDoor
open Go Go.RowKit
theorem at_byte {s:ByteArray} {pre l:By} {c:UInt8} (h:s.data.toList=pre ++ c::l):∃ hk:pre.length < s.size,s[pre.length]'hk=c∧decide ((pre.length:Int) < (s.size:Int))=true∧0≤(c.toNat:Int)∧(c.toNat:Int)≤255:=by
 have h1:s.size=pre.length + (l.length + 1):=by have:=congrArg List.length h;simpa using this
 have hk:pre.length < s.size:=by omega
 refine ⟨hk,?_,by simpa using hk,bi_range c⟩
 have h3:s.data[pre.length]?=some c:=by
  have:s.data.toList[pre.length]?=some c:=by rw [h];simp
  simpa using this
 obtain ⟨hh,h4⟩:=Array.getElem?_eq_some_iff.1 h3
 exact h4
theorem at_byte1 {s:ByteArray} {pre l:By} {c d:UInt8} (h:s.data.toList=pre ++ c::d::l):∃ hk:pre.length + 1 < s.size,s[pre.length + 1]'hk=d∧0≤(d.toNat:Int)∧(d.toNat:Int)≤255:=by
 have h':s.data.toList=(pre ++ [c]) ++ d::l:=by rw [h];simp
 obtain ⟨hk,e,_,b⟩:=at_byte h'
 have hl:(pre ++ [c]).length=pre.length + 1:=by simp
 have hk2:pre.length + 1 < s.size:=by omega
 refine ⟨hk2,?_,b⟩
 rw [←e];simp
theorem at_byte2 {s:ByteArray} {pre l:By} {c d f:UInt8} (h:s.data.toList=pre ++ c::d::f::l):∃ hk:pre.length + 2 < s.size,s[pre.length + 2]'hk=f∧0≤(f.toNat:Int)∧(f.toNat:Int)≤255:=by
 have h':s.data.toList=(pre ++ [c,d]) ++ f::l:=by rw [h];simp
 obtain ⟨hk,e,_,b⟩:=at_byte h'
 have hl:(pre ++ [c,d]).length=pre.length + 2:=by simp
 have hk2:pre.length + 2 < s.size:=by omega
 refine ⟨hk2,?_,b⟩
 rw [←e];simp
def NamePost (w w':World) (e:Ending):Option By→Prop
 | some out=>e=.returned (.tuple #[.string ⟨out.toArray⟩,.bool true])∧w.grownBy w' none
 | none=>e=.returned (.tuple #[.string ⟨#[]⟩,.bool false])∧w.grownBy w' none
set_option maxRecDepth 100000 in
set_option maxHeartbeats 40000000 in
theorem nameB_any (w:World) (s:ByteArray) (l:By) (hl:s.data.toList=l) (hs:s.size≤140737488351240) :
  Calls Tryz.prog 62 #[.string s] w fun e w'=>NamePost w w' e (nameB l []):=by
 have Hl:=Lib.hid hl
 clear hl
 go_enter Tryz.func62,Tryz.ntmps62
 go_wp2_with fail
 go_loopg [4,5] l.length (fun g t4 t5 wr=>∃ pre l' out,g=l'.length∧t5=.int .i64 (pre.length:Nat)∧s.data.toList=pre ++ l'∧nameB l' out=nameB l []∧w.grownBy wr none∧OwnB w.heap.size wr t4 out∧out.length≤pre.length)
 case atStart=>exact ⟨[],l,[],rfl,rfl,by simpa using Hl.out,rfl,World.grownBy.refl _ _,OwnB.nil _ _,by simp⟩
 case round =>
  obtain ⟨pre,l',out,hg,rfl,hS,hF,hG,hO,ho1⟩:=hrel
  have hsz:s.size=pre.length + l'.length:=by have:=congrArg List.length hS;simpa using this
  have hB2:=hG.size
  have HS:=Lib.hid hS
  have HF:=Lib.hid hF
  have HG:=Lib.hid hG
  have HO:=Lib.hid hO
  have Hg:=Lib.hid hg
  have Hz:=Lib.hid hsz
  have hp1:pre.length≤s.size:=by omega
  clear hS hF hG hO hg hsz
  cases l' with
  | nil =>
   have hlt:¬pre.length < s.size:=by have:=Hz.out;simp at this;omega
   go_wp2_with ((with_reducible refine wpList_ownstr (o:=⟨some 66,_,_,_,_,_⟩) rfl (.tmp 65) rfl w.heap.size out ?_ ?_);(· exact (by repeat (first | exact HO.out | apply OwnB.alloc | apply OwnB.drewN | apply OwnB.drew | (refine OwnB.set ?_ hbB _)))))
   go_ret2
   rw [←HF.out]
   exact ⟨rfl,(by repeat (first | exact HG.out | apply gr_set | apply gr_drewN | apply gr_drew | apply gr_alloc))⟩
  | cons c l2 =>
   obtain ⟨hlt,hc,hd,hr0,hr1⟩:=at_byte HS.out
   rcases Bool.eq_false_or_eq_true ((c.toNat:Int) != 35) with h1 | h1
   ·go_wp2_with ((at_builtin;go_must (refine wpList_push rfl (.tmp 17) (.tmp 21) rfl w.heap.size _ out c _ rfl (by repeat (first | exact HO.out | apply OwnB.alloc | apply OwnB.drewN | apply OwnB.drew | (refine OwnB.set ?_ hbB _))) _ rfl (by rw [World.cell?_alloc_at _ _ _ _ (by simp)];rfl) rfl (by omega) (by first | omega | (simp;omega)) ?_);intro v1 w1 hown1 hgr1))
    go_wp2_with fail
    go_roundg l2.length
    case measure=>rw [Hg.out];simp
    case rel =>
     refine ⟨pre ++ [c],l2,out ++ [c],rfl,by simp,by rw [HS.out];simp,?_,gr_noneThen (by repeat (first | exact HG.out | apply gr_set | apply gr_drewN | apply gr_drew | apply gr_alloc)) hgr1 (fun j hj=>(HO.out.lt j hj).1),hown1,by simp;omega⟩
     rw [←HF.out]
     rw [nameB_plain h1]
   ·cases l2 with
    | nil =>
     have hq:decide ((s.size:Int)≤(pre.length:Int) + 2)=true:=by have:=Hz.out;simp at this;simp;omega
     go_wp2_with fail
     go_ret2
     rw [←HF.out,nameB_1 h1]
     exact ⟨rfl,(by repeat (first | exact HG.out | apply gr_set | apply gr_drewN | apply gr_drew | apply gr_alloc))⟩
    | cons a l3 =>
     cases l3 with
     | nil =>
      have hq:decide ((s.size:Int)≤(pre.length:Int) + 2)=true:=by have:=Hz.out;simp at this;simp;omega
      go_wp2_with fail
      go_ret2
      rw [←HF.out,nameB_2 h1]
      exact ⟨rfl,(by repeat (first | exact HG.out | apply gr_set | apply gr_drewN | apply gr_drew | apply gr_alloc))⟩
     | cons d l4 =>
      have hq:decide ((s.size:Int)≤(pre.length:Int) + 2)=false:=by have:=Hz.out;simp at this;simp;omega
      have hq2:pre.length + 2 < s.size:=by have:=Hz.out;simp at this;omega
      obtain ⟨hlt1,hc1,hr2,hr3⟩:=at_byte1 HS.out
      obtain ⟨hlt2,hc2,hr4,hr5⟩:=at_byte2 HS.out
      obtain ⟨x,hx⟩:∃ x,hexVal (a.toNat:Int)=x:=⟨_,rfl⟩
      obtain ⟨y,hy⟩:∃ y,hexVal (d.toNat:Int)=y:=⟨_,rfl⟩
      have hxr:=hexVal_range (a.toNat:Int)
      have hyr:=hexVal_range (d.toNat:Int)
      rw [hx] at hxr
      rw [hy] at hyr
      rcases hxr with hxr | ⟨hx0,hx1⟩
      ·subst hxr
       go_wp2_with (go_at_call 59;refine (hex_eq hx hr2 hr3 _).mono ?_;rintro e w' ⟨rfl,rfl⟩)
       go_ret2
       rw [←HF.out,nameB_3 h1,if_pos (.inl (by rw [hx];decide))]
       exact ⟨rfl,(by repeat (first | exact HG.out | apply gr_set | apply gr_drewN | apply gr_drew | apply gr_alloc))⟩
      ·rcases hyr with hyr | ⟨hy0,hy1⟩
       ·subst hyr
        go_wp2_with fail
        refine (hex_eq hx hr2 hr3 _).mono ?_
        rintro e w' ⟨rfl,rfl⟩
        go_wp2_with fail
        refine (hex_eq hy hr4 hr5 _).mono ?_
        rintro e w' ⟨rfl,rfl⟩
        go_wp2_with fail
        go_ret2
        rw [←HF.out,nameB_3 h1,if_pos (.inr (by rw [hy];decide))]
        exact ⟨rfl,(by repeat (first | exact HG.out | apply gr_set | apply gr_drewN | apply gr_drew | apply gr_alloc))⟩
       ·have hb1:0≤16 * x + y:=by omega
        have hb2:16 * x + y≤255:=by omega
        have w1:IntKind.i64.wrap ((pre.length:Int) + 1)=(pre.length:Int) + 1:=IntWalk.i64_in _ (by omega)
        have w2:IntKind.i64.wrap ((pre.length:Int) + 2)=(pre.length:Int) + 2:=IntWalk.i64_in _ (by omega)
        have w3:IntKind.i64.wrap (16 * x)=16 * x:=IntWalk.i64_in _ (by omega)
        have w4:IntKind.i64.wrap (16 * x + y)=16 * x + y:=IntWalk.i64_in _ (by omega)
        have w5:(0:Int)≤(pre.length:Int) + 1:=by omega
        have w6:(0:Int)≤(pre.length:Int) + 2:=by omega
        have w7:((pre.length:Int) + 1).toNat=pre.length + 1:=by omega
        have w8:((pre.length:Int) + 2).toNat=pre.length + 2:=by omega
        rcases Bool.eq_false_or_eq_true (16 * x + y == 0) with hz | hz
        ·go_wp2_with fail
         refine (hex_eq hx hr2 hr3 _).mono ?_
         rintro e w' ⟨rfl,rfl⟩
         go_wp2_with fail
         refine (hex_eq hy hr4 hr5 _).mono ?_
         rintro e w' ⟨rfl,rfl⟩
         go_wp2_with fail
         go_quiet ((go_at_call 59;with_reducible first | exact Calls.quiet_of_same (hex_eq (by assumption) (by assumption) (by assumption) _) | exact quiet_plus (hex_eq (by assumption) (by assumption) (by assumption) _) | exact Calls.quiet_of (hex_eq (by assumption) (by assumption) (by assumption) _) | exact quiet_plusN (hex_eq (by assumption) (by assumption) (by assumption) _)))
         go_wp2_with fail
         go_ret2
         rw [←HF.out,nameB_3 h1,if_neg (by rw [hx,hy];omega),if_pos (by rw [hx,hy];exact hz)]
         exact ⟨rfl,(by repeat (first | exact HG.out | apply gr_set | apply gr_drewN | apply gr_drew | apply gr_alloc))⟩
        ·go_wp2_with fail
         refine (hex_eq hx hr2 hr3 _).mono ?_
         rintro e w' ⟨rfl,rfl⟩
         go_wp2_with fail
         refine (hex_eq hy hr4 hr5 _).mono ?_
         rintro e w' ⟨rfl,rfl⟩
         go_wp2_with fail
         go_quiet ((go_at_call 59;with_reducible first | exact Calls.quiet_of_same (hex_eq (by assumption) (by assumption) (by assumption) _) | exact quiet_plus (hex_eq (by assumption) (by assumption) (by assumption) _) | exact Calls.quiet_of (hex_eq (by assumption) (by assumption) (by assumption) _) | exact quiet_plusN (hex_eq (by assumption) (by assumption) (by assumption) _)))
         go_wp2_with ((at_builtin;go_must (refine wpList_push rfl (.tmp 58) (.tmp 61) rfl w.heap.size _ out (ub (16 * x + y)) _ rfl (by repeat (first | exact HO.out | apply OwnB.alloc | apply OwnB.drewN | apply OwnB.drew | (refine OwnB.set ?_ hbB _))) _ rfl (by rw [World.cell?_alloc_at _ _ _ _ (by simp)];rfl) (by first | exact ub_of (by omega) (by omega) | exact ub_mod (by omega) (by omega)) (by omega) (by first | omega | (simp;omega)) ?_);intro v1 w1 hown1 hgr1))
         go_wp2_with fail
         go_roundg l4.length
         case measure=>rw [Hg.out];simp;omega
         case rel =>
          refine ⟨pre ++ [c,a,d],l4,out ++ [ub (16 * x + y)],rfl,by simp;omega,by rw [HS.out];simp,?_,gr_noneThen (by repeat (first | exact HG.out | apply gr_set | apply gr_drewN | apply gr_drew | apply gr_alloc)) hgr1 (fun j hj=>(HO.out.lt j hj).1),hown1,by simp;omega⟩
          rw [←HF.out,nameB_3 h1,if_neg (by rw [hx,hy];omega),if_neg (by rw [hx,hy,hz];decide),hx,hy]
def nmBad (bad:Int):Option By→Int
 | some _=>bad
 | none=>failB bad 2
def NmPost (w w':World) (b:Nat) (s:ByteArray) (bad deep:Int) (ends:Bool) (e:Ending) (n:Option By) (r:By) (o:Bool):Prop :=
 e=.returned (.string ⟨(n.getD []).toArray⟩)∧(∃ p',RdAt w' b s p' r (nmBad bad n) deep o ends)∧w.grownBy w' (some b)
set_option maxRecDepth 100000 in
set_option maxHeartbeats 40000000 in
theorem name_any (w:World) (b:Nat) (s:ByteArray) (p l2:By) (c0':UInt8) (bad deep:Int) (odd ends:Bool) (hR:RdAt w b s p (c0'::l2) bad deep odd ends) (hs:s.size≤140737488351240) :
  Calls Tryz.prog 50 #[.pointer (some ⟨b,0,none⟩)] w fun e w'=>NmPost w w' b s bad deep ends e (nameB (wordT l2) []) (wordR l2) (wordO l2 odd):=by
 have HR:=Lib.hid hR
 have hbB:=hR.lt
 have hsz:=hR.size
 have hp0:p.length < s.size:=by simp at hsz;omega
 obtain ⟨c0,c1,c2,c3,c4,c5,cf⟩:=hR.cells
 clear hR hsz
 go_enter Tryz.func50,Tryz.ntmps50
 go_wp2_with fail
 refine (word_any _ b s (p ++ [c0']) l2 bad deep odd ends (by exact HR.out.set1) (by omega)).mono ?_
 rintro e w1 ⟨rfl,hR1,hg1⟩
 have hG1:w.grownBy w1 (some b):=gr_same (gr_set (World.grownBy.refl _ _) _ _) hg1
 clear c0 c1 c2 c3 c4 c5 cf HR hg1
 have HR:=Lib.hid hR1;clear hR1
 have HG:=Lib.hid hG1;clear hG1
 have hl2:(wordT l2).length≤140737488351240:=by
  have e1:=HR.out.size
  simp at e1
  omega
 go_wp2_with fail
 refine (nameB_any _ _ (wordT l2) rfl (by show (List.toArray (wordT l2)).size≤140737488351240;simpa using hl2)).mono ?_
 intro e w2 hN
 cases hn:nameB (wordT l2) [] with
 | none =>
  rw [hn] at hN
  obtain ⟨rfl,hg2⟩:=hN
  have hR2:=HR.out.grown hg2 (by simp)
  have hG2:w.grownBy w2 (some b):=gr_same HG.out (hg2.but _)
  have Hn:=Lib.hid hn;clear hn
  clear hg2
  have HR2:=Lib.hid hR2;clear hR2
  have HG2:=Lib.hid hG2;clear hG2
  go_wp2_with fail
  refine (fail_any _ b s _ _ bad deep _ ends (by exact HR2.out) 2).mono ?_
  rintro e w3 ⟨rfl,hR3,hg3⟩
  go_wp2_with fail
  go_ret
  rw [Hn.out]
  exact ⟨rfl,⟨_,hR3⟩,gr_same HG2.out hg3⟩
 | some out =>
  rw [hn] at hN
  obtain ⟨rfl,hg2⟩:=hN
  have hR2:=HR.out.grown hg2 (by simp)
  have hG2:w.grownBy w2 (some b):=gr_same HG.out (hg2.but _)
  have Hn:=Lib.hid hn;clear hn
  clear hg2
  have HR2:=Lib.hid hR2;clear hR2
  have HG2:=Lib.hid hG2;clear hG2
  go_wp2_with fail
  go_ret
  rw [Hn.out]
  exact ⟨rfl,⟨_,HR2.out⟩,HG2.out⟩
end Go.Proofs.YtfkecmlmnhbmoaaGreatDoor
namespace Go.Proofs.YtfkecmlmnhbmoaaGreatDoor
open Go Go.RowKit
def Env (W0 w:World):Prop:=W0.heap.size≤w.heap.size∧∀ k,k < W0.heap.size→w.heap[k]?=W0.heap[k]?
theorem Env.refl (W0:World):Env W0 W0:=⟨Nat.le_refl _,fun _ _=>rfl⟩
theorem Env.grown {W0 w w':World} (h:Env W0 w) {r:Option Nat} (hg:w.grownBy w' r) (hr:∀ k,r=some k→W0.heap.size≤k):Env W0 w' :=
 ⟨Nat.le_trans h.1 hg.size,fun k hk=>(hg.block k (by have:=h.1;omega) (fun e=>by have:=hr k e.symm;omega)).trans (h.2 k hk)⟩
theorem Env.grown0 {W0 w w':World} (h:Env W0 w) (hg:w.grownBy w' none):Env W0 w':=h.grown hg (fun k hk=>by cases hk)
theorem Env.cell {W0 w:World} (h:Env W0 w) {a:Addr} {v:Value} (hc:W0.cell? a=some v):w.cell? a=some v :=
 (World.cell?_of_block (h.2 a.block (World.block_lt_of_cell? _ _ hc))).trans hc
def PFC (pf:By→Nat) (W0:World):Prop:=∀ (l:By) (w:World),numOk l→Env W0 w →
 Calls Tryz.prog 57 #[.string ⟨l.toArray⟩,.int .i64 64] w fun e w'=>e=.returned (.tuple #[.float .f64 (pf l),.nilIface])∧w.grownBy w' none
structure Init (W0:World):Prop where
 syntaxErr:∃ te pe,W0.cell? ⟨2,0,Option.none⟩=some (.iface te pe)
 rangeErr:∃ te pe,W0.cell? ⟨3,0,Option.none⟩=some (.iface te pe)
theorem gr_of_below {w w':World} (h:Below w.heap.size w w'):w.grownBy w' Option.none:=⟨h.os,h.tape,h.output,h.size,fun k hk _=>h.block k hk⟩
end Go.Proofs.YtfkecmlmnhbmoaaGreatDoor
namespace Go.Proofs.YtfkecmlmnhbmoaaGreatDoor
open Go Go.RowKit
theorem scan_dig {c:UInt8} {l:By} {d p a:Int} {r:Int × Int × Int} (h:numScan (c::l) d p a=some r):46≤c.toNat∧c.toNat≤57:=by
 rcases scan_cons h with ⟨h1,h2,_⟩ | ⟨h1,_⟩<;>omega
theorem numOk_parts {l:By} (h:numOk l):∃ (pre:By) (c:UInt8) (l1:By) (d a:Int),l=pre ++ c::l1∧(pre=[]∨pre=[43]∨pre=[45])∧numStrip l=c::l1∧numScan (c::l1) 0 0 0=some (d,1,a)∧1≤d∧d≤60∧a≤14:=by
 obtain ⟨d,a,h1,h2,h3,h4⟩:=h
 cases l with
 | nil=>simp [numStrip,numScan] at h1
 | cons c l =>
  by_cases hs:(c.toNat:Int) == 43∨(c.toNat:Int) == 45
  ·have e:numStrip (c::l)=l:=by simp only [numStrip];rw [if_pos hs]
   rw [e] at h1
   cases l with
   | nil=>simp [numScan] at h1
   | cons c2 l2 =>
    refine ⟨[c],c2,l2,d,a,rfl,?_,e,h1,h2,h3,h4⟩
    right
    rcases hs with hs | hs
    ·left;congr 1;apply UInt8.toNat_inj.1;simp at hs;have:(43:UInt8).toNat=43:=rfl;omega
    ·right;congr 1;apply UInt8.toNat_inj.1;simp at hs;have:(45:UInt8).toNat=45:=rfl;omega
  ·have e:numStrip (c::l)=c::l:=by simp only [numStrip];rw [if_neg hs]
   rw [e] at h1
   exact ⟨[],c,l,d,a,rfl,.inl rfl,e,h1,h2,h3,h4⟩
theorem low_bits:∀ n:Nat,n < 58→46≤n→(bits BinOp.or IntKind.u8 (n:Int) 32 == 120)=false∧(bits BinOp.or IntKind.u8 (n:Int) 32 == 101)=false:=by decide
set_option maxRecDepth 100000 in
set_option maxHeartbeats 40000000 in
theorem low_any (w:World) (n:Int):Calls Tryz.prog 158 #[.int .u8 n] w fun e w'=>e=.returned (.int .u8 (bits BinOp.or IntKind.u8 n 32))∧w'=w:=by
 go_enter Tryz.func158,Tryz.ntmps158
 go_wp2_with fail
 go_ret
 exact ⟨rfl,rfl⟩
set_option maxRecDepth 100000 in
set_option maxHeartbeats 40000000 in
theorem cpl_zero (w:World) (s:ByteArray) (c:UInt8) (l:By) (hs:s.data.toList=c::l) (hc1:46≤c.toNat) (hc2:c.toNat≤57) (hs2:s.size≤1000) (t:ByteArray) (ht:t.data.toList=[105,110,102,105,110,105,116,121]) :
  Calls Tryz.prog 196 #[.string s,.string t] w fun e w'=>e=.returned (.int .i64 0)∧w'=w:=by
 obtain ⟨hlt,hcc,hd,hc0,_⟩:=at_byte (pre:=[]) (by simpa using hs)
 simp only [List.length_nil] at hlt hcc hd
 have Hs:=Lib.hid hs;clear hs
 obtain ⟨tlt,tcc,td,_,_⟩:=at_byte (pre:=[]) (l:=[110,102,105,110,105,116,121]) (c:=105) (by simpa using ht)
 simp only [List.length_nil] at tlt tcc td
 have tsz:t.size=8:=by have:=congrArg List.length ht;simpa using this
 have Ht:=Lib.hid ht;clear ht
 have hb1:((c.toNat:Int) != 105)=true:=by simp;omega
 go_enter Tryz.func196,Tryz.ntmps196
 go_wp2_with fail
 all_goals
  go_loopg [6] 0 (fun g t6 wr=>t6=.int .i64 0∧w=wr)
  case atStart=>exact ⟨rfl,rfl⟩
  case round =>
   obtain ⟨rfl,rfl⟩:=hrel
   go_wp2_with fail
   go_ret
   exact ⟨rfl,rfl⟩
theorem bytes_drop1 (s:ByteArray):(s.extract 1 s.size).data.toList=s.data.toList.drop 1:=by
 simp
 rw [List.take_of_length_le (by simp)]
set_option maxRecDepth 100000 in
set_option maxHeartbeats 40000000 in
theorem special_any (w:World) (s:ByteArray) (l:By) (hs:s.data.toList=l) (hok:numOk l) (hs2:s.size≤1000) :
  Calls Tryz.prog 142 #[.string s] w fun e w'=>e=.returned (.tuple #[.float .f64 0,.int .i64 0,.bool false])∧w'=w:=by
 obtain ⟨pre,c,l1,d,a,rfl,hp,_,hsc,_⟩:=numOk_parts hok
 obtain ⟨hc1,hc2⟩:=scan_dig hsc
 clear hsc hok
 rcases hp with rfl | rfl | rfl
 ·obtain ⟨hlt,hcc,hd,hc0,_⟩:=at_byte (pre:=[]) (by simpa using hs)
  simp only [List.length_nil] at hlt hcc hd
  have h1:((s.size:Int) == 0)=false:=beq_eq_false_iff_ne.2 (by omega)
  have b1:((c.toNat:Int) == 43)=false:=by simp;omega
  have b2:((c.toNat:Int) == 45)=false:=by simp;omega
  have b3:((c.toNat:Int) == 105)=false:=by simp;omega
  have b4:((c.toNat:Int) == 73)=false:=by simp;omega
  have b5:((c.toNat:Int) == 110)=false:=by simp;omega
  have b6:((c.toNat:Int) == 78)=false:=by simp;omega
  have Hs:=Lib.hid hs;clear hs
  go_enter Tryz.func142,Tryz.ntmps142
  go_wp2_with fail
  go_ret3
  exact ⟨rfl,rfl⟩
 all_goals
  obtain ⟨hlt,hcc,hd,hc0,_⟩:=at_byte (pre:=[]) (by simpa using hs)
  simp only [List.length_nil] at hlt hcc hd
  have h1:((s.size:Int) == 0)=false:=beq_eq_false_iff_ne.2 (by omega)
  have hsz:1≤s.size:=by omega
  have Hs:=Lib.hid hs
  clear hs
  go_enter Tryz.func142,Tryz.ntmps142
  have hx:(s.extract 1 s.size).data.toList=c::l1:=by rw [bytes_drop1,Hs.out];rfl
  have hx2:(s.extract 1 s.size).size≤1000:=by rw [ByteArray.size_extract];omega
  obtain ⟨s2,hs2'⟩:∃ s2,s2=s.extract 1 s.size:=⟨_,rfl⟩
  rw [←hs2'] at hx hx2
  have hs3:s.extract 1 s.size=s2:=hs2'.symm
  clear hs2'
  have Hx:=Lib.hid hx;clear hx
  go_wp2_with fail
  refine (cpl_zero _ s2 c l1 Hx.out hc1 hc2 hx2 _ rfl).mono ?_
  rintro e w1 ⟨rfl,hw⟩
  subst w1
  go_wp2_with fail
  go_ret3
  exact ⟨rfl,rfl⟩
end Go.Proofs.YtfkecmlmnhbmoaaGreatDoor
namespace Go.Proofs.YtfkecmlmnhbmoaaGreatDoor
inductive PV where
 | null | bool (n:Int) | int (n:Int) | real (x:Nat) | str (l:By) | name (l:By) | arr (kids:List PV) | dict (keys:List By) (kids:List PV) | ref (n g:Int)
abbrev Rd (α:Type):=Option (α × By × Bool)
def wTrue:By:=[116,114,117,101]
def wFalse:By:=[102,97,108,115,101]
def wNull:By:=[110,117,108,108]
def headIs (l:By) (p:Int→Bool):Bool:=match l with
 | []=>false
 | c::_=>p (c.toNat:Int)
def hasPct (l:By):Bool:=l.any fun c=>(c.toNat:Int) == 37
def refF (pf:By→Nat) (n:Int) (text l:By) (o:Bool):Rd PV :=
 let a:=passM false l o
 let s:=wordT a.1
 let ob:=wordO a.1 a.2
 let g:=numF pf s
 if g.2.2.2 == 1 then some (.int n,l,o || ob)
 else
  let c:=passM false (wordR a.1) ob
  let w:=wordT c.1
  let oc:=wordO c.1 c.2
  if w≠[82]∨g.2.2.2≠0∨g.1≠2∨headIs s isDig=false∨headIs text isDig=false then some (.int n,l,(o || oc) || headIs w (· == 82))
  else if n == 0∨65535 < g.2.1 then none
  else some (.ref n g.2.1,wordR c.1,oc || hasPct (l.take (l.length - (wordR c.1).length)))
def rdNum (pf:By→Nat) (l:By) (o:Bool):Rd PV :=
 let t:=wordT l
 let r:=wordR l
 let o1:=wordO l o
 if t=wTrue then some (.bool 1,r,o1)
 else if t=wFalse then some (.bool 0,r,o1)
 else if t=wNull then some (.null,r,o1)
 else
  let v:=numF pf t
  if v.2.2.2≠0 then none
  else if v.1≠2 then some (.real v.2.2.1,r,o1)
  else refF pf v.2.1 t r o1
def rdArr (f:By→Bool→Rd PV):Nat→By→Bool→List PV→Rd (List PV)
 | 0,_,_,_=>none
 | m + 1,l,o,acc =>
  let a:=passM false l o
  if headIs a.1 (· == 93) then some (acc,a.1.tail,a.2)
  else match f a.1 a.2 with
   | none=>none
   | some (x,l2,o2)=>rdArr f m l2 o2 (acc ++ [x])
def is2 (l:By) (n:Int):Bool:=match l with
 | c::d::_=>(c.toNat:Int) == n && (d.toNat:Int) == n
 | _=>false
def rdDict (f:By→Bool→Rd PV):Nat→By→Bool→List By→List PV→Rd (List By × List PV)
 | 0,_,_,_,_=>none
 | m + 1,l,o,ks,acc =>
  let a:=passM false l o
  if is2 a.1 62 then some ((ks,acc),a.1.tail.tail,a.2)
  else if headIs a.1 (· == 47) then
   match nameB (wordT a.1.tail) [] with
   | none=>none
   | some k =>
    if 35∈k∨k∈ks then none
    else match f (wordR a.1.tail) (wordO a.1.tail a.2) with
     | none=>none
     | some (x,l2,o2)=>rdDict f m l2 o2 (ks ++ [k]) (acc ++ [x])
  else none
def rdV (pf:By→Nat):Nat→By→Bool→Rd PV
 | 0,_,_=>none
 | n + 1,l0,o0 =>
  let a:=passM false l0 o0
  match a.1 with
  | []=>none
  | c :: l =>
   if (c.toNat:Int) == 40 then (litF (c::l) 0 []).map fun r=>(.str r.1,r.2,a.2)
   else if is2 (c::l) 60 then (rdDict (rdV pf n) l.tail.length l.tail a.2 [] []).map fun r=>(.dict r.1.1 r.1.2,r.2)
   else if (c.toNat:Int) == 60 then
    let h:=hexF l false 0 [] a.2
    if h.1 == 0 then some (.str h.2.1,h.2.2.1,h.2.2.2) else none
   else if (c.toNat:Int) == 47 then (nameB (wordT l) []).map fun k=>(.name k,wordR l,wordO l a.2)
   else if (c.toNat:Int) == 91 then (rdArr (rdV pf n) l.length l a.2 []).map fun r=>(.arr r.1,r.2)
   else if isDelim (c.toNat:Int) then none
   else rdNum pf (c::l) a.2
theorem passM_len:∀ (b:Bool) (l:By) (o:Bool),(passM b l o).1.length≤l.length:=by
 intro b l
 induction l generalizing b with
 | nil=>intro o;cases b<;>exact Nat.le_refl _
 | cons c l ih =>
  intro o
  cases b
  all_goals
   simp only [passM]
   repeat' split
   all_goals first
    | exact Nat.le_trans (ih _ _) (by simp)
    | exact Nat.le_refl _
theorem wordR_len (l:By):(wordR l).length≤l.length:=(List.dropWhile_sublist _).length_le
theorem word_split (l:By):wordT l ++ wordR l=l:=List.takeWhile_append_dropWhile
end Go.Proofs.YtfkecmlmnhbmoaaGreatDoor
namespace Go.Proofs.YtfkecmlmnhbmoaaGreatDoor
open Go Go.RowKit
def numV (k n:Int) (r:Nat):Value:=.agg #[.int .i64 k,.int .i64 n,.int .i64 0,.float .f64 r,.string ⟨#[]⟩,.slice none 0 0,.slice none 0 0]
def numRet (r:Int × Int × Nat × Int):Ending:=.returned (.tuple #[numV r.1 r.2.1 r.2.2.1,.int .i64 r.2.2.2])
theorem gr_setN {w wr:World} {b:Nat} (h:w.grownBy wr none) (hb:w.heap.size≤b) (i:Nat) (v:Value):w.grownBy (wr.setCell ⟨b,i,none⟩ v) none :=
 ⟨h.os,h.tape,h.output,by simpa using h.size,fun k hk hkb=>(Below.heap_setCell _ _ _ _ (by simp;omega)).trans (h.block k hk hkb)⟩
theorem bytesWorld_gr (w:World) (e:TypeId) (s:ByteArray):w.grownBy (Lib.bytesWorld w e s) none:=by
 refine ⟨?_,?_,?_,by rw [Lib.bytesWorld_size];omega,fun k hk _=>Lib.bytesWorld_at_old w e s k hk⟩
 all_goals simp [Lib.bytesWorld,World.freeze,World.alloc,World.drew,-World.alloc_eq,-World.drew_eq]
theorem atoi_any (W0 w:World) (hI:Init W0) (hE:Env W0 w) (s:ByteArray) (hs:s.size≤140737488351240) :
  Calls Tryz.prog 77 #[.string s] w fun e w'=>w.grownBy w' none∧((∃ v,Lib.atoiAll s.data.toList=.ok v∧e=.returned (.tuple #[.int .i64 v,.nilIface])) ∨
   (∃ v N,(∀ u,Lib.atoiAll s.data.toList≠.ok u)∧e=.returned (.tuple #[.int .i64 v,.iface 134 (.pointer (some ⟨N,0,none⟩))]))):=by
 cases h:Lib.atoiAll s.data.toList with
 | ok v =>
  refine (Tryz.strconv_Atoi_ok s (by omega) v h w).mono ?_
  rintro e w' ⟨rfl,hw⟩
  refine ⟨?_,.inl ⟨v,rfl,rfl⟩⟩
  rcases hw with rfl | ⟨t,rfl⟩
  ·exact World.grownBy.refl _ _
  ·exact bytesWorld_gr _ _ _
 | range =>
  obtain ⟨te,pe,hc⟩:=hI.rangeErr
  refine (Tryz.strconv_Atoi_range s (by omega) h _ w (hE.cell hc) (.inr ⟨te,pe,rfl⟩)).mono ?_
  rintro e w' ⟨N,rfl,_,_,hb⟩
  exact ⟨gr_of_below hb,.inr ⟨_,N,by simp,rfl⟩⟩
 | _ =>
  obtain ⟨te,pe,hc⟩:=hI.syntaxErr
  refine (Tryz.strconv_Atoi_syntax s (by omega) h _ w (hE.cell hc) (.inr ⟨te,pe,rfl⟩)).mono ?_
  rintro e w' ⟨N,rfl,_,_,hb⟩
  exact ⟨gr_of_below hb,.inr ⟨0,N,by simp,rfl⟩⟩
theorem zb_cells {w:World} {b:Nat} (h:w.heap[b]?=some (.cells #[.int .i64 0,.int .i64 0,.int .i64 0,.float .f64 0,.string ⟨#[]⟩,.slice none 0 0,.slice none 0 0] 30 (0,0))):w.cell? ⟨b,0,none⟩=some (.int .i64 0)∧w.cell? ⟨b,1,none⟩=some (.int .i64 0)∧w.cell? ⟨b,2,none⟩=some (.int .i64 0)∧w.cell? ⟨b,3,none⟩=some (.float .f64 0) ∧
  w.cell? ⟨b,4,none⟩=some (.string ⟨#[]⟩)∧w.cell? ⟨b,5,none⟩=some (.slice none 0 0)∧w.cell? ⟨b,6,none⟩=some (.slice none 0 0)∧(∀ i,w.frozen? ⟨b,i,none⟩=false):=by
 simp [World.cell?,World.frozen?,h]
theorem numF_none {pf:By→Nat} {l l1:By} (h1:numStrip l=l1) (h2:numScan l1 0 0 0=none):numF pf l=(0,0,0,1):=by
 unfold numF;rw [h1,h2]
theorem numF_end {pf:By→Nat} {l l1:By} {d p a:Int} (h1:numStrip l=l1) (h2:numScan [] d p a=numScan l1 0 0 0):numF pf l =
  if d == 0∨1 < p then ((0,0,0,1):Int × Int × Nat × Int)
  else if 14 < a∨60 < d then (0,0,0,2)
  else if p == 1 then (3,0,pf l,0)
  else match Lib.atoiAll l with
   | .ok n=>if 2147483647 < n∨n < -2147483648 then (0,0,0,2) else (2,n,0,0)
   | _=>(0,0,0,2):=by
 unfold numF;rw [h1,←h2];rfl
theorem num_ok {l l1:By} {d p a:Int} (h1:numStrip l=l1) (h2:numScan [] d p a=numScan l1 0 0 0) (hd:¬d=0) (hp:p=1) (ha:a≤14) (hd1:d≤60) (hd0:0≤d):numOk l :=
 ⟨d,a,by rw [h1,←h2,←hp];rfl,by omega,hd1,ha⟩
theorem num_real {pf:By→Nat} {l l1:By} {d p a:Int} (h1:numStrip l=l1) (h2:numScan [] d p a=numScan l1 0 0 0) (hd:¬d=0) (hp:p=1) (ha:a≤14) (hd1:d≤60):numF pf l=(3,0,pf l,0):=by
 subst hp
 rw [numF_end h1 h2,if_neg (by simp [hd]),if_neg (by omega),if_pos (by decide)]
theorem num_int {pf:By→Nat} {l l1:By} {d p a:Int} (h1:numStrip l=l1) (h2:numScan [] d p a=numScan l1 0 0 0) (hd:¬d=0) (hp:p≤1) (hp1:¬p=1) (ha:a≤14) (hd1:d≤60) :
  (∀ v,Lib.atoiAll l=.ok v→numF pf l=if 2147483647 < v∨v < -2147483648 then ((0,0,0,2):Int × Int × Nat × Int) else (2,v,0,0))∧((∀ u,Lib.atoiAll l≠.ok u)→numF pf l=(0,0,0,2)):=by
 rw [numF_end h1 h2,if_neg (by simp [hd];omega),if_neg (by omega),if_neg (by simpa using hp1)]
 constructor
 ·intro v hv;rw [hv]
 ·intro hv
  cases h:Lib.atoiAll l with
  | ok v=>exact absurd h (hv v)
  | range=>rfl
  | _=>rfl
theorem PFC.at {pf:By→Nat} {W0:World} (h:PFC pf W0) {s:ByteArray} {l:By} (hl:s.data.toList=l) (hok:numOk l) {w:World} (hE:Env W0 w) :
  Calls Tryz.prog 57 #[.string s,.int .i64 64] w fun e w'=>e=.returned (.tuple #[.float .f64 (pf l),.nilIface])∧w.grownBy w' none:=by
 obtain rfl:s=⟨l.toArray⟩:=by cases s;subst hl;simp
 exact h l w hok hE
def NumInv (w wr:World) (s:ByteArray) (pre l1:By) (q l':By) (d p a:Int):Prop :=
 s.data.toList=(pre ++ q) ++ l'∧numScan l' d p a=numScan l1 0 0 0∧w.grownBy wr none∧wr.heap[w.heap.size]?=some (.cells #[.int .i64 0,.int .i64 0,.int .i64 0,.float .f64 0,.string ⟨#[]⟩,.slice none 0 0,.slice none 0 0] 30 (0,0))∧0≤d∧0≤p∧0≤a∧d + p≤q.length∧a≤d
end Go.Proofs.YtfkecmlmnhbmoaaGreatDoor
