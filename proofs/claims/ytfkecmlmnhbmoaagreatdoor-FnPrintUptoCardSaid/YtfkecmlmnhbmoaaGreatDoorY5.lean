/- The texts A6 of the workbench, laid together. -/
import Derived.Test.YtfkecmlmnhbmoaaGreatDoorProg
import Derived.WalkKit
import Derived.WalkLawsBesides
import Derived.WalkSpells
import Derived.BigQuiet
import Derived.BigRegion
import Derived.Deep.QuietTactic
import Derived.Deep.RegionHeld3
import Derived.Deep.LoopGhost
import Derived.StillTailTactics
import Derived.Lib.Hide
import Derived.Laws.EntriesVeiled
import Derived.Test.YtfkecmlmnhbmoaaGreatDoorY1
import Derived.Test.YtfkecmlmnhbmoaaGreatDoorY2
set_option linter.unusedVariables false
set_option linter.unusedSimpArgs false
namespace Go.Proofs.YtfkecmlmnhbmoaaGreatDoor
open Go Go.RowKit
def zeroV:Value:=.agg #[.int .i64 0,.int .i64 0,.int .i64 0,.float .f64 0,.string ⟨#[]⟩,.slice none 0 0,.slice none 0 0]
def failB (bad what:Int):Int:=if bad=0 then what else bad
theorem RdAt.set2 {w:World} {b:Nat} {s:ByteArray} {p l:By} {bad deep:Int} {odd ends:Bool} (h:RdAt w b s p l bad deep odd ends) (x:Int):RdAt (w.setCell ⟨b,2,Option.none⟩ (.int .i64 x)) b s p l x deep odd ends:=by
 refine ⟨h.1,?_⟩
 simp [World.setCell,Array.getElem?_modify,h.2]
theorem RdAt.set3 {w:World} {b:Nat} {s:ByteArray} {p l:By} {bad deep:Int} {odd ends:Bool} (h:RdAt w b s p l bad deep odd ends) (x:Int):RdAt (w.setCell ⟨b,3,Option.none⟩ (.int .i64 x)) b s p l bad x odd ends:=by
 refine ⟨h.1,?_⟩
 simp [World.setCell,Array.getElem?_modify,h.2]
theorem RdAt.set5 {w:World} {b:Nat} {s:ByteArray} {p l:By} {bad deep:Int} {odd ends:Bool} (h:RdAt w b s p l bad deep odd ends) (x:Bool):RdAt (w.setCell ⟨b,5,Option.none⟩ (.bool x)) b s p l bad deep odd x:=by
 refine ⟨h.1,?_⟩
 simp [World.setCell,Array.getElem?_modify,h.2]
theorem RdAt.alloc {w:World} {b:Nat} {s:ByteArray} {p l:By} {bad deep:Int} {odd ends:Bool} (h:RdAt w b s p l bad deep odd ends) (o:Obj):RdAt (w.alloc o) b s p l bad deep odd ends :=
 h.of_heap (Below.heap_alloc _ _ _ h.lt)
theorem RdAt.grown {w w':World} {b:Nat} {s:ByteArray} {p l:By} {bad deep:Int} {odd ends:Bool} (h:RdAt w b s p l bad deep odd ends) {r:Option Nat} (hg:w.grownBy w' r) (hr:some b≠r):RdAt w' b s p l bad deep odd ends :=
 h.of_heap (hg.block b h.lt hr)
set_option maxRecDepth 100000 in
set_option maxHeartbeats 40000000 in
theorem fail_any (w:World) (b:Nat) (s:ByteArray) (p l:By) (bad deep:Int) (odd ends:Bool) (hR:RdAt w b s p l bad deep odd ends) (what:Int) :
    Calls Tryz.prog 45 #[.pointer (some ⟨b,0,none⟩),.int .i64 what] w fun e w'=>e=.returned zeroV∧RdAt w' b s p l (failB bad what) deep odd ends∧w.grownBy w' (some b):=by
  have HR:=Lib.hid hR
  have HG:=Lib.hid (World.grownBy.refl w (some b))
  obtain ⟨c0,c1,c2,c3,c4,c5,cf⟩:=HR.out.cells
  have hsz:=HR.out.size
  have hb:=hR.lt
  clear hR hsz
  rcases Bool.eq_false_or_eq_true (bad == 0) with h0 | h0
  all_goals
    go_enter Tryz.func45,Tryz.ntmps45
    go_wp2
    refine bodyPost_ret (v:=zeroV) (by simp [results,Tryz.results45,go_sem,zeroV]) rfl ⟨rfl,?_,(by repeat (first | exact HG.out | apply gr_set | apply gr_drewN | apply gr_drew | apply gr_alloc))⟩
    first
      | (have e:failB bad what=what:=by simp at h0;simp [failB,h0]
         rw [e];exact (HR.out.set2 _).alloc _)
      | (have e:failB bad what=bad:=by simp at h0;simp [failB,h0]
         rw [e];exact HR.out.alloc _)
theorem is_take {s t:ByteArray} {p l:By} (h:s.data.toList=p ++ l) (ht:t.size≤l.length):((s.extract p.length (p.length + t.size)).toList == t.toList)=t.data.toList.isPrefixOf l:=by
 have e:(s.extract p.length (p.length + t.size)).toList=l.take t.size:=by
  rw [ByteArray.toList_eq];simp [h]
 rw [e,ByteArray.toList_eq]
 have h1:t.size=t.data.toList.length:=by simp
 rw [h1,Bool.eq_iff_iff]
 simp only [beq_iff_eq,List.isPrefixOf_iff_prefix]
 rw [List.prefix_iff_eq_take]
 exact eq_comm
set_option maxRecDepth 100000 in
set_option maxHeartbeats 40000000 in
theorem is_any (w:World) (b:Nat) (s:ByteArray) (p l:By) (bad deep:Int) (odd ends:Bool) (hR:RdAt w b s p l bad deep odd ends) (hs:s.size≤140737488351240) (t:ByteArray) (ht:t.size≤3) :
  Calls Tryz.prog 47 #[.pointer (some ⟨b,0,none⟩),.string t] w fun e w'=>e=.returned (.bool (t.data.toList.isPrefixOf l))∧∃ n,w'=w.drewN n:=by
 have HR:=Lib.hid hR
 have hsz:=hR.size
 obtain ⟨c0,c1,c2,c3,c4,c5,cf⟩:=hR.cells
 clear hR
 by_cases h4:(t.size:Int)≤(s.size:Int) - (p.length:Int)
 ·have hd:decide ((t.size:Int)≤(s.size:Int) - (p.length:Int))=true:=by simpa using h4
  have h5:p.length≤p.length + t.size:=by omega
  have h6:p.length + t.size≤s.size:=by omega
  clear hsz
  go_enter Tryz.func47,Tryz.ntmps47
  go_wp2_with fail
  go_quiet (fail)
  go_wp2_with fail
  go_ret
  have hl:t.size≤l.length:=by have:=HR.out.size;omega
  exact ⟨ret_bool (is_take HR.out.1 hl),⟨_,rfl⟩⟩
 ·have hd:decide ((t.size:Int)≤(s.size:Int) - (p.length:Int))=false:=by simpa using h4
  have h7:p.length≤s.size:=by omega
  clear hsz
  go_enter Tryz.func47,Tryz.ntmps47
  go_wp2_with fail
  go_quiet (fail)
  go_wp2_with fail
  go_ret
  have hl:¬t.size≤l.length:=by have:=HR.out.size;omega
  refine ⟨ret_bool ?_,⟨_,rfl⟩⟩
  symm
  rw [Bool.eq_false_iff]
  intro hp
  have:=(List.isPrefixOf_iff_prefix.1 hp).length_le
  simp at this
  omega
end Go.Proofs.YtfkecmlmnhbmoaaGreatDoor
