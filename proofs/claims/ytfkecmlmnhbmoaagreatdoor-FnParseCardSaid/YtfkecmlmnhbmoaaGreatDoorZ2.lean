/- FnParse: the texts A2 of the workbench, laid together. -/
import Derived.Test.YtfkecmlmnhbmoaaGreatDoorProg
import Derived.WalkKit
import Derived.WalkLawsBesides
import Derived.WalkSpells
import Derived.BigQuiet
import Derived.BigRegion
import Derived.Deep.QuietTactic
import Derived.Deep.RegionHeld3
import Derived.Deep.LoopGhost
import Derived.StillTailTactics
import Derived.Lib.Hide
import Derived.Laws.EntriesVeiled
import Derived.Maps.AppendAt
import Derived.Deep.AppendLies
import Derived.Test.YtfkecmlmnhbmoaaGreatDoorZ1
set_option linter.unusedVariables false
set_option linter.unusedSimpArgs false
namespace Go.Proofs.YtfkecmlmnhbmoaaGreatDoor
open Go Go.RowKit
def RdAt (w:World) (b:Nat) (s:ByteArray) (p l:By) (bad deep:Int) (odd ends:Bool):Prop :=
  s.data.toList=p ++ l∧w.heap[b]?=some (.cells #[.string s,.int .i64 p.length,.int .i64 bad,.int .i64 deep,.bool odd,.bool ends] 57 (0,0))
section
variable {w:World} {b:Nat} {s:ByteArray} {p l:By} {bad deep:Int} {odd ends:Bool}
theorem RdAt.cells (h:RdAt w b s p l bad deep odd ends):w.cell? ⟨b,0,none⟩=some (.string s)∧w.cell? ⟨b,1,none⟩=some (.int .i64 p.length)∧w.cell? ⟨b,2,none⟩=some (.int .i64 bad)∧w.cell? ⟨b,3,none⟩=some (.int .i64 deep) ∧
    w.cell? ⟨b,4,none⟩=some (.bool odd)∧w.cell? ⟨b,5,none⟩=some (.bool ends)∧(∀ i,w.frozen? ⟨b,i,none⟩=false):=by
  obtain ⟨_,h⟩:=h
  simp [World.cell?,World.frozen?,h]
theorem RdAt.size (h:RdAt w b s p l bad deep odd ends):s.size=p.length + l.length:=by
  have h1:=congrArg List.length h.1
  simp at h1
  simpa using h1
theorem RdAt.lt (h:RdAt w b s p l bad deep odd ends):b < w.heap.size:=(Array.getElem?_eq_some_iff.1 h.2).1
theorem RdAt.of_heap {w':World} (h:RdAt w b s p l bad deep odd ends) (e:w'.heap[b]?=w.heap[b]?):RdAt w' b s p l bad deep odd ends:=⟨h.1,e.trans h.2⟩
theorem RdAt.head {c:UInt8} (h:RdAt w b s p (c::l) bad deep odd ends):∃ hk:p.length < s.size,s[p.length]'hk=c:=by
  have h1:=h.size
  simp at h1
  refine ⟨by omega,?_⟩
  have h2:s.data.toList[p.length]?=some c:=by rw [h.1];simp
  have h3:s.data[p.length]?=some c:=by simpa using h2
  obtain ⟨hh,h4⟩:=Array.getElem?_eq_some_iff.1 h3
  exact h4
theorem RdAt.set1 {c:UInt8} (h:RdAt w b s p (c::l) bad deep odd ends):RdAt (w.setCell ⟨b,1,none⟩ (.int .i64 (p.length + 1))) b s (p ++ [c]) l bad deep odd ends:=by
  refine ⟨by rw [h.1];simp,?_⟩
  simp [World.setCell,Array.getElem?_modify,h.2]
theorem RdAt.set4 (h:RdAt w b s p l bad deep odd ends) (o:Bool):RdAt (w.setCell ⟨b,4,none⟩ (.bool o)) b s p l bad deep o ends:=by
  refine ⟨h.1,?_⟩
  simp [World.setCell,Array.getElem?_modify,h.2]
theorem RdAt.drew (h:RdAt w b s p l bad deep odd ends):RdAt w.drew b s p l bad deep odd ends:=h
theorem RdAt.drewN (h:RdAt w b s p l bad deep odd ends) (n:Nat):RdAt (w.drewN n) b s p l bad deep odd ends:=h
end
theorem gr_set {w wr:World} {b:Nat} (h:w.grownBy wr (some b)) (i:Nat) (v:Value):w.grownBy (wr.setCell ⟨b,i,none⟩ v) (some b) :=
  ⟨h.os,h.tape,h.output,by simpa using h.size,fun k hk hkb=>(Below.heap_setCell _ _ _ _ (by simpa using hkb)).trans (h.block k hk hkb)⟩
theorem gr_drewN {w wr:World} {r:Option Nat} (h:w.grownBy wr r) (n:Nat):w.grownBy (wr.drewN n) r:=⟨h.os,h.tape,h.output,h.size,h.block⟩
theorem gr_drew {w wr:World} {r:Option Nat} (h:w.grownBy wr r):w.grownBy wr.drew r:=⟨h.os,h.tape,h.output,h.size,h.block⟩
theorem gr_alloc {w wr:World} {r:Option Nat} (h:w.grownBy wr r) (o:Obj):w.grownBy (wr.alloc o) r :=
  ⟨h.os,h.tape,h.output,by have:=h.size;simp;omega,fun k hk hkb=>(Below.heap_alloc _ _ _ (by have:=h.size;omega)).trans (h.block k hk hkb)⟩
set_option maxRecDepth 100000 in
set_option maxHeartbeats 40000000 in
theorem pass_any (w : World) (b : Nat) (s : ByteArray) (p l : By) (bad deep : Int) (odd ends : Bool) (hR : RdAt w b s p l bad deep odd ends) (hs : s.size ≤ 140737488351240) :
    Calls Tryz.prog 25 #[.pointer (some ⟨b,0,none⟩)] w fun e w'=>e=.returned (.tuple #[])∧(∃ p',RdAt w' b s p' (passM false l odd).1 bad deep (passM false l odd).2 ends)∧w.grownBy w' (some b):=by
  have HR:=Lib.hid hR
  clear hR
  go_enter Tryz.func25,Tryz.ntmps25
  go_wp2_with fail
  go_loopg [] l.length (fun g wr=>∃ p' l' o',g=l'.length∧RdAt wr b s p' l' bad deep o' ends∧passM false l' o'=passM false l odd∧w.grownBy wr (some b))
  case atStart=>exact ⟨p,l,odd,rfl,HR.out,rfl,World.grownBy.refl _ _⟩
  case round =>
    obtain ⟨p',l',o',hg,hR',hP,hG⟩:=hrel
    obtain ⟨c0,c1,c2,c3,c4,c5,cf⟩:=hR'.cells
    have hsz:=hR'.size
    have HP:=Lib.hid hP
    have HR':=Lib.hid hR'
    have HG:=Lib.hid hG
    have Hg:=Lib.hid hg
    clear hP hR' hG hg
    cases l' with
    | nil =>
      have hlt:¬p'.length < s.size:=by simp at hsz;omega
      clear hsz
      go_wp2_with fail
      go_quiet ((first|(go_at_call 42;with_reducible first|exact qaw _|exact qbw _)|(go_at_call 43;with_reducible first|exact qap _|exact qbp _)|(go_at_call 52;with_reducible first|exact qad _|exact qbd _)|(go_at_call 76;with_reducible first|exact qar _|exact qbr _)|(go_at_call 75;with_reducible first|exact qag _|exact qbg _)));go_wp2_with fail
      go_end0
      refine ⟨rfl,?_,(by repeat (first | exact HG.out | apply gr_set | apply gr_drewN | apply gr_drew | apply gr_alloc))⟩
      rw [←HP.out];exact ⟨p',HR'.out⟩
    | cons c l2 =>
      obtain ⟨hlt,hc⟩:=HR'.out.head
      clear hsz
      have hcr:=bi_range c
      cases h1:isWhite (c.toNat:Int)
      · by_cases h2 : (c.toNat : Int) = 37
        · have hb2 : ((c.toNat : Int) == 37) = true := by simp [h2]
          have H2:=Lib.hid h2
          clear h2
          go_wp2_with fail
          go_quiet ((first|(go_at_call 42;with_reducible first|exact qaw _|exact qbw _)|(go_at_call 43;with_reducible first|exact qap _|exact qbp _)|(go_at_call 52;with_reducible first|exact qad _|exact qbd _)|(go_at_call 76;with_reducible first|exact qar _|exact qbr _)|(go_at_call 75;with_reducible first|exact qag _|exact qbg _)));go_wp2_with fail
          go_quiet ((first|(go_at_call 42;with_reducible first|exact qaw _|exact qbw _)|(go_at_call 43;with_reducible first|exact qap _|exact qbp _)|(go_at_call 52;with_reducible first|exact qad _|exact qbd _)|(go_at_call 76;with_reducible first|exact qar _|exact qbr _)|(go_at_call 75;with_reducible first|exact qag _|exact qbg _)));go_wp2_with fail
          go_quiet ((first|(go_at_call 42;with_reducible first|exact qaw _|exact qbw _)|(go_at_call 43;with_reducible first|exact qap _|exact qbp _)|(go_at_call 52;with_reducible first|exact qad _|exact qbd _)|(go_at_call 76;with_reducible first|exact qar _|exact qbr _)|(go_at_call 75;with_reducible first|exact qag _|exact qbg _)));go_wp2_with fail
          have h37:passM true (c::l2) o'=passM false (c::l2) o':=by
            have e:(c.toNat:Int)=37:=H2.out
            simp [passM,e,isWhite,isPlain]
          have H37:=Lib.hid h37
          clear h37
          clear c0 c1 c2 c3 c4 c5 cf hlt hc hcr hb2 h1
          go_loopg [] (l2.length + 1) (fun g wi=>∃ p2 l3 o3,g=l3.length∧RdAt wi b s p2 l3 bad deep o3 ends∧passM true l3 o3=passM false l odd∧w.grownBy wi (some b)∧(l3=c::l2∨l3.length < (c::l2).length))
          case atStart=>exact ⟨p',c::l2,o',rfl,HR'.out,H37.out.trans HP.out,(by repeat (first | exact HG.out | apply gr_set | apply gr_drewN | apply gr_drew | apply gr_alloc)),.inl rfl⟩
          case round =>
            clear HR' HP HG H37
            obtain ⟨p2,l3,o3,hg2,hR2,hP2,hG2,hL2⟩:=hrel
            obtain ⟨c0,c1,c2,c3,c4,c5,cf⟩:=hR2.cells
            have hsz:=hR2.size
            have HR:=Lib.hid hR2
            have HP:=Lib.hid hP2
            have HG:=Lib.hid hG2
            have HL:=Lib.hid hL2
            have Hg2:=Lib.hid hg2
            clear hR2 hP2 hG2 hL2 hg2
            cases l3 with
            | nil =>
              have hlt:¬p2.length < s.size:=by simp at hsz;omega
              have hd:decide ((p2.length:Int) < (s.size:Int))=false:=by simpa using hlt
              clear hsz
              go_wp2_with fail
              go_quiet ((first|(go_at_call 42;with_reducible first|exact qaw _|exact qbw _)|(go_at_call 43;with_reducible first|exact qap _|exact qbp _)|(go_at_call 52;with_reducible first|exact qad _|exact qbd _)|(go_at_call 76;with_reducible first|exact qar _|exact qbr _)|(go_at_call 75;with_reducible first|exact qag _|exact qbg _)));go_wp2_with fail
              go_roundg 0
              case measure=>rw [Hg.out];simp
              case rel=>exact ⟨p2,[],o3,rfl,HR.out,by rw [←HP.out];simp [passM],(by repeat (first | exact HG.out | apply gr_set | apply gr_drewN | apply gr_drew | apply gr_alloc))⟩
            | cons d l4 =>
              obtain ⟨hlt,hc⟩:=HR.out.head
              clear hsz
              have hd:decide ((p2.length:Int) < (s.size:Int))=true:=by simpa using hlt
              have hdr:=bi_range d
              have key:((((d.toNat:Int) != 10)=false∨((d.toNat:Int) != 10)=true∧((d.toNat:Int) != 13)=false)∧Hid (isWhite (d.toNat:Int)=true∧((d.toNat:Int) == 10 || (d.toNat:Int) == 13)=true∧l4.length + 1 < (c::l2).length))∨(((d.toNat:Int) != 10)=true∧((d.toNat:Int) != 13)=true∧Hid (((d.toNat:Int) == 10 || (d.toNat:Int) == 13)=false)):=by
                by_cases e:(d.toNat:Int)=10∨(d.toNat:Int)=13
                · left
                  refine ⟨?_,?_,?_,?_⟩
                  · rcases e with e | e<;>simp [e]
                  · rcases e with e | e<;>simp [e,isWhite]
                  · rcases e with e | e<;>simp [e]
                  · rcases HL.out with e2 | e2
                    · exfalso
                      have e3:(c.toNat:Int)=37:=H2.out
                      have e4:d=c:=by injection e2
                      rw [e4,e3] at e
                      omega
                    · simpa using e2
                · right
                  have n1:(d.toNat:Int)≠10:=fun h=>e (.inl h)
                  have n2:(d.toNat:Int)≠13:=fun h=>e (.inr h)
                  refine ⟨by simpa using n1,by simpa using n2,?_⟩
                  show ((d.toNat:Int) == 10 || (d.toNat:Int) == 13)=false
                  simp [n1,n2]
              rcases key with ⟨h10,hk⟩ | ⟨h10,h13,hk⟩
              · rcases h10 with h10 | ⟨h10,h13⟩
                all_goals
                  go_wp2_with fail
                  go_quiet ((first|(go_at_call 42;with_reducible first|exact qaw _|exact qbw _)|(go_at_call 43;with_reducible first|exact qap _|exact qbp _)|(go_at_call 52;with_reducible first|exact qad _|exact qbd _)|(go_at_call 76;with_reducible first|exact qar _|exact qbr _)|(go_at_call 75;with_reducible first|exact qag _|exact qbg _)));go_wp2_with fail
                  go_roundg (l4.length + 1)
                  case measure=>rw [Hg.out];exact hk.out.2.2
                  case rel=>exact ⟨p2,d::l4,o3,rfl,HR.out,by rw [←HP.out];have:=hk.out;simp [passM,this.1,this.2.1],(by repeat (first | exact HG.out | apply gr_set | apply gr_drewN | apply gr_drew | apply gr_alloc))⟩
              · cases o3
                · cases hpl:isPlain (d.toNat:Int)
                  all_goals
                    go_wp2_with fail
                    go_quiet ((first|(go_at_call 42;with_reducible first|exact qaw _|exact qbw _)|(go_at_call 43;with_reducible first|exact qap _|exact qbp _)|(go_at_call 52;with_reducible first|exact qad _|exact qbd _)|(go_at_call 76;with_reducible first|exact qar _|exact qbr _)|(go_at_call 75;with_reducible first|exact qag _|exact qbg _)));go_wp2_with fail
                    (refine wp_region_quiet_tail 18 (by kernel_rfl) (by kernel_rfl) ?_;simp only [List.take_succ_cons,List.take_zero,List.drop_succ_cons,List.drop_zero];(repeat (go_big_quiet_step ((first|(go_at_call 42;with_reducible first|exact qaw _|exact qbw _)|(go_at_call 43;with_reducible first|exact qap _|exact qbp _)|(go_at_call 52;with_reducible first|exact qad _|exact qbd _)|(go_at_call 76;with_reducible first|exact qar _|exact qbr _)|(go_at_call 75;with_reducible first|exact qag _|exact qbg _)))));refine wpQuiet_nil ?_;intro _ hwt;obtain ⟨nt,hwt'⟩:=hwt;subst hwt';go_wp2_with fail)
                    go_roundg l4.length
                    case measure=>rw [Hg2.out];simp
                    case rel =>
                      refine ⟨p2 ++ [d],l4,_,rfl,(HR.out.set4 _).set1,?_,(by repeat (first | exact HG.out | apply gr_set | apply gr_drewN | apply gr_drew | apply gr_alloc)),.inr ?_⟩
                      · rw [←HP.out];simp [passM,hk.out,hpl]
                      · rcases HL.out with e2 | e2
                        · rw [←e2];simp
                        · exact Nat.lt_of_succ_lt (by simpa using e2)
                · go_wp2_with fail
                  go_quiet ((first|(go_at_call 42;with_reducible first|exact qaw _|exact qbw _)|(go_at_call 43;with_reducible first|exact qap _|exact qbp _)|(go_at_call 52;with_reducible first|exact qad _|exact qbd _)|(go_at_call 76;with_reducible first|exact qar _|exact qbr _)|(go_at_call 75;with_reducible first|exact qag _|exact qbg _)));go_wp2_with fail
                  (refine wp_region_quiet_tail 18 (by kernel_rfl) (by kernel_rfl) ?_;simp only [List.take_succ_cons,List.take_zero,List.drop_succ_cons,List.drop_zero];(repeat (go_big_quiet_step ((first|(go_at_call 42;with_reducible first|exact qaw _|exact qbw _)|(go_at_call 43;with_reducible first|exact qap _|exact qbp _)|(go_at_call 52;with_reducible first|exact qad _|exact qbd _)|(go_at_call 76;with_reducible first|exact qar _|exact qbr _)|(go_at_call 75;with_reducible first|exact qag _|exact qbg _)))));refine wpQuiet_nil ?_;intro _ hwt;obtain ⟨nt,hwt'⟩:=hwt;subst hwt';go_wp2_with fail)
                  go_roundg l4.length
                  case measure=>rw [Hg2.out];simp
                  case rel =>
                    refine ⟨p2 ++ [d],l4,true,rfl,(HR.out.set4 _).set1,?_,(by repeat (first | exact HG.out | apply gr_set | apply gr_drewN | apply gr_drew | apply gr_alloc)),.inr ?_⟩
                    · rw [←HP.out];simp [passM,hk.out]
                    · rcases HL.out with e2 | e2
                      · rw [←e2];simp
                      · exact Nat.lt_of_succ_lt (by simpa using e2)
        · have hb2:((c.toNat:Int) == 37)=false:=by simp [h2]
          clear h2
          go_wp2_with fail
          go_quiet ((first|(go_at_call 42;with_reducible first|exact qaw _|exact qbw _)|(go_at_call 43;with_reducible first|exact qap _|exact qbp _)|(go_at_call 52;with_reducible first|exact qad _|exact qbd _)|(go_at_call 76;with_reducible first|exact qar _|exact qbr _)|(go_at_call 75;with_reducible first|exact qag _|exact qbg _)));go_wp2_with fail
          go_quiet ((first|(go_at_call 42;with_reducible first|exact qaw _|exact qbw _)|(go_at_call 43;with_reducible first|exact qap _|exact qbp _)|(go_at_call 52;with_reducible first|exact qad _|exact qbd _)|(go_at_call 76;with_reducible first|exact qar _|exact qbr _)|(go_at_call 75;with_reducible first|exact qag _|exact qbg _)));go_wp2_with fail
          go_quiet ((first|(go_at_call 42;with_reducible first|exact qaw _|exact qbw _)|(go_at_call 43;with_reducible first|exact qap _|exact qbp _)|(go_at_call 52;with_reducible first|exact qad _|exact qbd _)|(go_at_call 76;with_reducible first|exact qar _|exact qbr _)|(go_at_call 75;with_reducible first|exact qag _|exact qbg _)));go_wp2_with fail
          refine bodyPost_ret (results_none rfl _ _ _) rfl ?_
          refine ⟨rfl,?_,(by repeat (first | exact HG.out | apply gr_set | apply gr_drewN | apply gr_drew | apply gr_alloc))⟩
          rw [←HP.out]
          have:passM false (c::l2) o'=(c::l2,o'):=by simp [passM,h1,hb2]
          rw [this]
          exact ⟨p',HR'.out⟩
      · go_wp2_with fail
        go_quiet ((first|(go_at_call 42;with_reducible first|exact qaw _|exact qbw _)|(go_at_call 43;with_reducible first|exact qap _|exact qbp _)|(go_at_call 52;with_reducible first|exact qad _|exact qbd _)|(go_at_call 76;with_reducible first|exact qar _|exact qbr _)|(go_at_call 75;with_reducible first|exact qag _|exact qbg _)));go_wp2_with fail
        go_quiet ((first|(go_at_call 42;with_reducible first|exact qaw _|exact qbw _)|(go_at_call 43;with_reducible first|exact qap _|exact qbp _)|(go_at_call 52;with_reducible first|exact qad _|exact qbd _)|(go_at_call 76;with_reducible first|exact qar _|exact qbr _)|(go_at_call 75;with_reducible first|exact qag _|exact qbg _)));go_wp2_with fail
        go_roundg l2.length
        case measure=>rw [Hg.out];simp
        case rel =>
          refine ⟨p' ++ [c],l2,o',rfl,?_,?_,?_⟩
          · exact HR'.out.set1
          · rw [←HP.out];simp [passM,h1]
          · exact (by repeat (first | exact HG.out | apply gr_set | apply gr_drewN | apply gr_drew | apply gr_alloc))
end Go.Proofs.YtfkecmlmnhbmoaaGreatDoor
