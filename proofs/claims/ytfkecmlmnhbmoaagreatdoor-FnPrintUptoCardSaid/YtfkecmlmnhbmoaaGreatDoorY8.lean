/- The texts A8 of the workbench, laid together. -/
import Derived.Test.YtfkecmlmnhbmoaaGreatDoorProg
import Derived.WalkKit
import Derived.WalkLawsBesides
import Derived.WalkSpells
import Derived.BigQuiet
import Derived.BigRegion
import Derived.Deep.QuietTactic
import Derived.Deep.RegionHeld3
import Derived.Deep.LoopGhost
import Derived.StillTailTactics
import Derived.Lib.Hide
import Derived.Laws.EntriesVeiled
import Derived.Test.YtfkecmlmnhbmoaaGreatDoorY6
import Derived.Test.YtfkecmlmnhbmoaaGreatDoorY7
set_option linter.unusedVariables false
set_option linter.unusedSimpArgs false
namespace Go.Proofs.YtfkecmlmnhbmoaaGreatDoor
open Go Go.RowKit
theorem hex_eq {n x:Int} (h:hexVal n=x) (h0:0≤n) (h1:n≤255) (w:World):Calls Tryz.prog 59 #[.int .u8 n] w fun e w'=>e=.returned (.int .i64 x)∧w'=w:=h ▸ hex_any n h0 h1 w
def HexPost (w w':World) (b:Nat) (s:ByteArray) (bad deep:Int) (ends:Bool) (e:Ending) (r:Int × By × By × Bool):Prop :=
 e=.returned (.string ⟨r.2.1.toArray⟩)∧(∃ p',RdAt w' b s p' r.2.2.1 (if r.1=0 then bad else failB bad r.1) deep r.2.2.2 ends)∧w.grownBy w' (some b)
set_option maxRecDepth 100000 in
set_option maxHeartbeats 40000000 in
theorem hexs_any (w:World) (b:Nat) (s:ByteArray) (p l2:By) (c0':UInt8) (bad deep:Int) (odd ends:Bool) (hR:RdAt w b s p (c0'::l2) bad deep odd ends) (hs:s.size≤140737488351240) :
  Calls Tryz.prog 49 #[.pointer (some ⟨b,0,none⟩)] w fun e w'=>HexPost w w' b s bad deep ends e (hexF l2 false 0 [] odd):=by
 have HR:=Lib.hid hR
 have hbB:=hR.lt
 have hsz:=hR.size
 have hp0:p.length < s.size:=by simp at hsz;omega
 obtain ⟨c0,c1,c2,c3,c4,c5,cf⟩:=hR.cells
 clear hR hsz
 go_enter Tryz.func49,Tryz.ntmps49
 go_wp2_with fail
 clear c0 c1 c2 c3 c4 c5 cf
 go_loopg [3,4,5] l2.length (fun g t3 t4 t5 wr=>∃ p' l' half od out o',g=l'.length∧t4=.int .i64 half∧t5=.bool od∧RdAt wr b s p' l' bad deep o' ends∧hexF l' od half out o'=hexF l2 false 0 [] odd∧w.grownBy wr (some b)∧OwnB w.heap.size wr t3 out∧out.length≤p'.length∧0≤half∧half≤15)
 case atStart=>exact ⟨p ++ [c0'],l2,0,false,[],odd,rfl,rfl,rfl,HR.out.set1,rfl,gr_set (World.grownBy.refl _ _) _ _,OwnB.nil _ _,by simp,by omega,by omega⟩
 case round =>
  obtain ⟨p',l',half,od,out,o',hg,rfl,rfl,hR,hF,hG,hO,ho1,ho2,ho3⟩:=hrel
  clear HR
  have HR:=Lib.hid hR
  have HF:=Lib.hid hF
  have HG:=Lib.hid hG
  have HO:=Lib.hid hO
  have Hg:=Lib.hid hg
  have hsz:=hR.size
  have hp1:p'.length≤s.size:=by omega
  have hB2:=hG.size
  clear hR hF hG hO hg hsz
  obtain ⟨c0,c1,c2,c3,c4,c5,cf⟩:=HR.out.cells
  cases l' with
  | nil =>
   obtain ⟨hlt,hd⟩:=HR.out.none
   go_wp2_with fail
   go_quiet ((first|(go_at_call 42;with_reducible first|exact qaw _|exact qbw _)|(go_at_call 43;with_reducible first|exact qap _|exact qbp _)|(go_at_call 52;with_reducible first|exact qad _|exact qbd _)|(go_at_call 76;with_reducible first|exact qar _|exact qbr _)|(go_at_call 75;with_reducible first|exact qag _|exact qbg _)));go_wp2_with fail
   refine (fail_any _ b s p' [] bad deep o' ends (by exact HR.out) 1).mono ?_
   rintro e w1 ⟨rfl,hR1,hg1⟩
   go_wp2_with fail
   go_ret
   rw [←HF.out]
   exact ⟨rfl,⟨p',hR1⟩,gr_same (by repeat (first | exact HG.out | apply gr_set | apply gr_drewN | apply gr_drew | apply gr_alloc)) hg1⟩
  | cons c l3 =>
   obtain ⟨hlt,hc,hd,hr0,hr1⟩:=HR.out.head'
   rcases Bool.eq_false_or_eq_true ((c.toNat:Int) == 62) with h1 | h1
   ·cases od
    ·go_wp2_with fail
     go_quiet ((first|(go_at_call 42;with_reducible first|exact qaw _|exact qbw _)|(go_at_call 43;with_reducible first|exact qap _|exact qbp _)|(go_at_call 52;with_reducible first|exact qad _|exact qbd _)|(go_at_call 76;with_reducible first|exact qar _|exact qbr _)|(go_at_call 75;with_reducible first|exact qag _|exact qbg _)));go_wp2_with fail
     go_quiet ((first|(go_at_call 42;with_reducible first|exact qaw _|exact qbw _)|(go_at_call 43;with_reducible first|exact qap _|exact qbp _)|(go_at_call 52;with_reducible first|exact qad _|exact qbd _)|(go_at_call 76;with_reducible first|exact qar _|exact qbr _)|(go_at_call 75;with_reducible first|exact qag _|exact qbg _)))
     go_wp2_with ((with_reducible refine wpList_ownstr (o:=⟨some 53,_,_,_,_,_⟩) rfl (.tmp 52) rfl w.heap.size out ?_ ?_);(· exact (by repeat (first | exact HO.out | apply OwnB.alloc | apply OwnB.drewN | apply OwnB.drew | (refine OwnB.set ?_ hbB _)))))
     go_ret
     rw [←HF.out]
     have hE:hexF (c::l3) false half out o'=(0,out,l3,o'):=by simp [hexF,h1]
     rw [hE]
     exact ⟨rfl,⟨p' ++ [c],HR.out.set1⟩,(by repeat (first | exact HG.out | apply gr_set | apply gr_drewN | apply gr_drew | apply gr_alloc))⟩
    ·go_wp2_with fail
     go_quiet ((first|(go_at_call 42;with_reducible first|exact qaw _|exact qbw _)|(go_at_call 43;with_reducible first|exact qap _|exact qbp _)|(go_at_call 52;with_reducible first|exact qad _|exact qbd _)|(go_at_call 76;with_reducible first|exact qar _|exact qbr _)|(go_at_call 75;with_reducible first|exact qag _|exact qbg _)));go_wp2_with fail
     go_quiet ((first|(go_at_call 42;with_reducible first|exact qaw _|exact qbw _)|(go_at_call 43;with_reducible first|exact qap _|exact qbp _)|(go_at_call 52;with_reducible first|exact qad _|exact qbd _)|(go_at_call 76;with_reducible first|exact qar _|exact qbr _)|(go_at_call 75;with_reducible first|exact qag _|exact qbg _)))
     go_wp2_with (first | (at_builtin;go_must (refine wpList_push rfl (.tmp 46) (.tmp 50) rfl w.heap.size _ out (ub (half * 16)) _ rfl (by repeat (first | exact HO.out | apply OwnB.alloc | apply OwnB.drewN | apply OwnB.drew | (refine OwnB.set ?_ hbB _))) _ rfl (by rw [World.cell?_alloc_at _ _ _ _ (by simp)];rfl) (by first | exact ub_of (by omega) (by omega) | exact ub_mod (by omega) (by omega)) (by omega) (by first | omega | (simp;omega)) ?_);intro v1 w1 hown1 hgr1) | ((with_reducible refine wpList_ownstr (o:=⟨some 53,_,_,_,_,_⟩) rfl (.tmp 52) rfl w.heap.size (out ++ [ub (half * 16)]) ?_ ?_);(· exact hown1)))
     have hRn:RdAt w1 b s (p' ++ [c]) l3 bad deep o' ends:=RdAt.grown (by exact RdAt.alloc HR.out.set1 _) hgr1 (own_ne HO.out hbB)
     have hGn:w.grownBy w1 (some b):=gr_then (by repeat (first | exact HG.out | apply gr_set | apply gr_drewN | apply gr_drew | apply gr_alloc)) hgr1 (fun j hj=>(HO.out.lt j hj).1)
     go_ret
     rw [←HF.out]
     have hE:hexF (c::l3) true half out o'=(0,out ++ [ub (half * 16)],l3,o'):=by simp [hexF,h1]
     rw [hE]
     exact ⟨rfl,⟨p' ++ [c],hRn⟩,hGn⟩
   ·cases h2:isWhite (c.toNat:Int)
    ·obtain ⟨x,hx⟩:∃ x,hexVal (c.toNat:Int)=x:=⟨_,rfl⟩
     have hxr:=hexVal_range (c.toNat:Int)
     rw [hx] at hxr
     rcases hxr with hxr | ⟨hx0,hx1⟩
     ·subst hxr
      go_wp2_with fail
      go_quiet ((first|(go_at_call 42;with_reducible first|exact qaw _|exact qbw _)|(go_at_call 43;with_reducible first|exact qap _|exact qbp _)|(go_at_call 52;with_reducible first|exact qad _|exact qbd _)|(go_at_call 76;with_reducible first|exact qar _|exact qbr _)|(go_at_call 75;with_reducible first|exact qag _|exact qbg _)));go_wp2_with fail
      go_quiet ((first|(go_at_call 42;with_reducible first|exact qaw _|exact qbw _)|(go_at_call 43;with_reducible first|exact qap _|exact qbp _)|(go_at_call 52;with_reducible first|exact qad _|exact qbd _)|(go_at_call 76;with_reducible first|exact qar _|exact qbr _)|(go_at_call 75;with_reducible first|exact qag _|exact qbg _)))
      go_wp2_with (first | (go_at_call 42;refine (white_eq h2 _).mono ?_;rintro e w' ⟨rfl,rfl⟩) | (go_at_call 59;refine (hex_eq hx hr0 hr1 _).mono ?_;rintro e w' ⟨rfl,rfl⟩))
      refine (fail_any _ b s (p' ++ [c]) l3 bad deep o' ends (by exact HR.out.set1) 2).mono ?_
      rintro e w1 ⟨rfl,hR1,hg1⟩
      go_wp2_with fail
      go_ret
      rw [←HF.out]
      have hE:hexF (c::l3) od half out o'=(2,[],l3,o'):=by simp [hexF,h1,h2,hx]
      rw [hE]
      exact ⟨rfl,⟨_,hR1⟩,gr_same (by repeat (first | exact HG.out | apply gr_set | apply gr_drewN | apply gr_drew | apply gr_alloc)) hg1⟩
     ·have hxn:¬x < 0:=by omega
      cases od
      ·go_wp2_with fail
       go_quiet ((first|(go_at_call 42;with_reducible first|exact qaw _|exact qbw _)|(go_at_call 43;with_reducible first|exact qap _|exact qbp _)|(go_at_call 52;with_reducible first|exact qad _|exact qbd _)|(go_at_call 76;with_reducible first|exact qar _|exact qbr _)|(go_at_call 75;with_reducible first|exact qag _|exact qbg _)));go_wp2_with fail
       go_quiet ((first|(go_at_call 42;with_reducible first|exact qaw _|exact qbw _)|(go_at_call 43;with_reducible first|exact qap _|exact qbp _)|(go_at_call 52;with_reducible first|exact qad _|exact qbd _)|(go_at_call 76;with_reducible first|exact qar _|exact qbr _)|(go_at_call 75;with_reducible first|exact qag _|exact qbg _)))
       go_wp2_with (first | (go_at_call 42;refine (white_eq h2 _).mono ?_;rintro e w' ⟨rfl,rfl⟩) | (go_at_call 59;refine (hex_eq hx hr0 hr1 _).mono ?_;rintro e w' ⟨rfl,rfl⟩))
       go_roundg l3.length
       case measure=>rw [Hg.out];simp
       case rel =>
        refine ⟨p' ++ [c],l3,x,true,out,o',rfl,rfl,rfl,HR.out.set1,?_,(by repeat (first | exact HG.out | apply gr_set | apply gr_drewN | apply gr_drew | apply gr_alloc)),(by repeat (first | exact HO.out | apply OwnB.alloc | apply OwnB.drewN | apply OwnB.drew | (refine OwnB.set ?_ hbB _))),by simp;omega,hx0,hx1⟩
        rw [←HF.out]
        simp [hexF,h1,h2,hx]
        intro h;omega
      ·go_wp2_with fail
       go_quiet ((first|(go_at_call 42;with_reducible first|exact qaw _|exact qbw _)|(go_at_call 43;with_reducible first|exact qap _|exact qbp _)|(go_at_call 52;with_reducible first|exact qad _|exact qbd _)|(go_at_call 76;with_reducible first|exact qar _|exact qbr _)|(go_at_call 75;with_reducible first|exact qag _|exact qbg _)));go_wp2_with fail
       go_quiet ((first|(go_at_call 42;with_reducible first|exact qaw _|exact qbw _)|(go_at_call 43;with_reducible first|exact qap _|exact qbp _)|(go_at_call 52;with_reducible first|exact qad _|exact qbd _)|(go_at_call 76;with_reducible first|exact qar _|exact qbr _)|(go_at_call 75;with_reducible first|exact qag _|exact qbg _)))
       go_wp2_with (first | (go_at_call 42;refine (white_eq h2 _).mono ?_;rintro e w' ⟨rfl,rfl⟩) | (go_at_call 59;refine (hex_eq hx hr0 hr1 _).mono ?_;rintro e w' ⟨rfl,rfl⟩) | (at_builtin;go_must (refine wpList_push rfl (.tmp 79) (.tmp 86) rfl w.heap.size _ out (ub (half * 16 + x)) _ rfl (by repeat (first | exact HO.out | apply OwnB.alloc | apply OwnB.drewN | apply OwnB.drew | (refine OwnB.set ?_ hbB _))) _ rfl (by rw [World.cell?_alloc_at _ _ _ _ (by simp)];rfl) (by first | exact ub_of (by omega) (by omega) | exact ub_mod (by omega) (by omega)) (by omega) (by first | omega | (simp;omega)) ?_);intro v1 w1 hown1 hgr1))
       go_wp2_with fail
       go_roundg l3.length
       case measure=>rw [Hg.out];simp
       case rel =>
        refine ⟨_,l3,half,false,out ++ [ub (half * 16 + x)],o',rfl,rfl,rfl,RdAt.grown (by exact RdAt.alloc HR.out.set1 _) hgr1 (own_ne HO.out hbB),?_,gr_then (by repeat (first | exact HG.out | apply gr_set | apply gr_drewN | apply gr_drew | apply gr_alloc)) hgr1 (fun j hj=>(HO.out.lt j hj).1),hown1,by simp;omega,ho2,ho3⟩
        rw [←HF.out]
        simp [hexF,h1,h2,hx]
        intro h;omega
    ·cases hz:((c.toNat:Int) == 0)
     all_goals cases o'
     all_goals cases od
     all_goals
      go_wp2_with fail
      go_quiet ((first|(go_at_call 42;with_reducible first|exact qaw _|exact qbw _)|(go_at_call 43;with_reducible first|exact qap _|exact qbp _)|(go_at_call 52;with_reducible first|exact qad _|exact qbd _)|(go_at_call 76;with_reducible first|exact qar _|exact qbr _)|(go_at_call 75;with_reducible first|exact qag _|exact qbg _)));go_wp2_with fail
      go_quiet ((first|(go_at_call 42;with_reducible first|exact qaw _|exact qbw _)|(go_at_call 43;with_reducible first|exact qap _|exact qbp _)|(go_at_call 52;with_reducible first|exact qad _|exact qbd _)|(go_at_call 76;with_reducible first|exact qar _|exact qbr _)|(go_at_call 75;with_reducible first|exact qag _|exact qbg _)))
      go_wp2_with (go_at_call 42;refine (white_eq h2 _).mono ?_;rintro e w' ⟨rfl,rfl⟩)
      go_roundg l3.length
      case measure=>rw [Hg.out];simp
      case rel =>
       refine ⟨p' ++ [c],l3,half,_,out,_,rfl,rfl,rfl,HR.out.set1.set4 _,?_,(by repeat (first | exact HG.out | apply gr_set | apply gr_drewN | apply gr_drew | apply gr_alloc)),(by repeat (first | exact HO.out | apply OwnB.alloc | apply OwnB.drewN | apply OwnB.drew | (refine OwnB.set ?_ hbB _))),by simp;omega,ho2,ho3⟩
       rw [←HF.out]
       simp [hexF,h1,h2,hz]
end Go.Proofs.YtfkecmlmnhbmoaaGreatDoor
