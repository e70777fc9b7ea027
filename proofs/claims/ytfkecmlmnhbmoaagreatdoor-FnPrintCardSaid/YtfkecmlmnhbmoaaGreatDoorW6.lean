/- Parts A7. -/
import Derived.Test.YtfkecmlmnhbmoaaGreatDoorW4
import Derived.Test.YtfkecmlmnhbmoaaGreatDoorW5
set_option linter.unusedVariables false
set_option linter.unusedSimpArgs false
set_option maxRecDepth 100000
set_option maxHeartbeats 40000000
namespace Go.Proofs.YtfkecmlmnhbmoaaGreatDoor
open Go Go.RowKit
theorem gr_same {w wr w1:World}{r:Option Nat}(h:w.grownBy wr r)(k:wr.grownBy w1 r):w.grownBy w1 r:=h.trans k
theorem own_ne {B:Nat}{w:World}{v:Value}{l:By}(h:OwnB B w v l){b:Nat}(hb:b<B):some b≠v.ownBlock:=by
 intro e;have:=(h.lt b e.symm).1;omega
def LitInv (w wr:World)(b:Nat)(s:ByteArray)(l:By)(bad deep:Int)(odd ends:Bool)(p' l':By)(op:Int)(out:By)(v:Value):Prop :=
 RdAt wr b s p' l' bad deep odd ends∧litF l' op out=litF l 0 []∧w.grownBy wr (some b)∧OwnB w.heap.size wr v out∧out.length≤p'.length∧-(p'.length:Int)≤op∧op≤p'.length
def LitPost (w w':World)(b:Nat)(s:ByteArray)(bad deep:Int)(odd ends:Bool)(e:Ending):Option (By×By)→Prop
 | some (out,r)=>e=.returned (.string ⟨out.toArray⟩)∧(∃p',RdAt w' b s p' r bad deep odd ends)∧w.grownBy w' (some b)
 | none=>e=.returned (.string ⟨#[]⟩)∧(∃p',RdAt w' b s p' [] (failB bad 1) deep odd true)∧w.grownBy w' (some b)
theorem lit_any (w:World)(b:Nat)(s:ByteArray)(p l:By)(bad deep:Int)(odd ends:Bool)(hR:RdAt w b s p l bad deep odd ends)(hs:s.size≤140737488351240) :
  Calls Tryz.prog 46 #[.pointer (some ⟨b,0,none⟩)] w fun e w'=>LitPost w w' b s bad deep odd ends e (litF l 0 []):=by
 have HR:=xhd hR;have hbB:=hR.lt;clear hR;go_enter Tryz.func46,Tryz.ntmps46;go_wp2_with fail
 go_loopg [3,4] l.length (fun g t3 t4 wr=>∃p' l' op out,g=l'.length∧t4=.int .i64 op∧LitInv w wr b s l bad deep odd ends p' l' op out t3)
 case atStart=>exact⟨p,l,0,[],rfl,rfl,HR.out,rfl,xgr _ _,OwnB.nil _ _,by simp,by omega,by omega⟩
 case round =>
  obtain⟨p',l',op,out,hg,rfl,hR,hF,hG,hO,ho1,ho2,ho3⟩:=hrel;clear HR;obtain⟨HR,HF,HG,HO,Hg⟩:=xh5 hR hF hG hO hg;have hsz:=hR.size;have hp1:p'.length≤s.size:=by omega
  have hB2:=hG.size;clear hR hF hG hO hg hsz;obtain⟨c0,c1,c2,c3,c4,c5,cf⟩:=HR.out.cells
  cases l' with
  | nil =>
   obtain⟨hlt,hd⟩:=HR.out.none;go_wp2_with fail
   go_quiet (fail);go_wp2_with fail
   refine(fail_any _ b s p' [] bad deep odd true (by exact HR.out.set5 true) 1).mono ?_;rintro e w1⟨rfl,hR1,hg1⟩;go_wp2_with fail
   go_ret;rw[←HF.out,litF_nil];exact⟨rfl,⟨p',hR1⟩,gr_same (by repeat (first|exact HG.out|apply gr_set|apply gr_drewN|apply gr_drew|apply gr_alloc)) hg1⟩
  | cons c l2 =>
   obtain⟨hlt,hc,hd,hr0,hr1⟩:=HR.out.head';rcases xbt ((c.toNat:Int)==40) with h1|h1
   ·rcases xbt (op+1==1) with h2|h2
    ·go_wp2_with fail
     go_quiet (fail);go_wp2_with fail
     go_quiet (fail);go_wp2_with fail
     go_roundg l2.length
     case measure=>rw[Hg.out];simp
     case rel=>exact⟨p'++[c],l2,op+1,out,rfl,rfl,HR.out.set1,by rw[←HF.out,litF_cons];simp[h1,h2],(by repeat (first|exact HG.out|apply gr_set|apply gr_drewN|apply gr_drew|apply gr_alloc)),(by repeat (first|exact HO.out|apply OwnB.alloc|apply OwnB.drewN|apply OwnB.drew|(refine OwnB.set ?_ hbB _))),by simp;omega,by simp;omega,by simp;omega⟩
    ·go_wp2_with fail
     go_quiet (fail);go_wp2_with fail
     go_quiet (fail)
     go_wp2_with ((at_builtin;go_must (refine wpList_push rfl (.tmp 92) (.tmp 94) rfl w.heap.size _ out c _ rfl (by repeat (first|exact HO.out|apply OwnB.alloc|apply OwnB.drewN|apply OwnB.drew|(refine OwnB.set ?_ hbB _))) _ rfl (by rw[World.cell?_alloc_at _ _ _ _ (by simp)];rfl) rfl (by omega) (by first|omega|(simp;omega)) ?_);intro v1 w1 hown1 hgr1))
     go_wp2_with fail
     go_roundg l2.length
     case measure=>rw[Hg.out];simp
     case rel =>
      refine⟨_,l2,op+1,out++[c],rfl,rfl,RdAt.grown (by exact RdAt.alloc HR.out.set1 _) hgr1 (own_ne HO.out hbB),?_,gr_then (by repeat (first|exact HG.out|apply gr_set|apply gr_drewN|apply gr_drew|apply gr_alloc)) hgr1 (fun j hj=>(HO.out.lt j hj).1),hown1,by first|omega|(simp;omega),by first|omega|(simp;omega),by first|omega|(simp;omega)⟩;rw[←HF.out]
      conv=>rhs;rw[litF_cons]
      simp[h1,h2]
   ·rcases xbt ((c.toNat:Int)==41) with h2|h2
    ·rcases xbt (op-1==0) with h3|h3
     ·go_wp2_with fail
      go_quiet (fail);go_wp2_with fail
      go_quiet (fail)
      go_wp2_with ((with_reducible refine wpList_ownstr (o:=⟨some 48,_,_,_,_,_⟩) rfl (.tmp 47) rfl w.heap.size out ?_ ?_);(· exact(by repeat (first|exact HO.out|apply OwnB.alloc|apply OwnB.drewN|apply OwnB.drew|(refine OwnB.set ?_ hbB _)))))
      go_ret;rw[←HF.out,litF_cons];simp only[h1,h2,h3];exact⟨rfl,⟨p'++[c],HR.out.set1⟩,(by repeat (first|exact HG.out|apply gr_set|apply gr_drewN|apply gr_drew|apply gr_alloc))⟩
     ·go_wp2_with fail
      go_quiet (fail);go_wp2_with fail
      go_quiet (fail)
      go_wp2_with ((at_builtin;go_must (refine wpList_push rfl (.tmp 92) (.tmp 94) rfl w.heap.size _ out c _ rfl (by repeat (first|exact HO.out|apply OwnB.alloc|apply OwnB.drewN|apply OwnB.drew|(refine OwnB.set ?_ hbB _))) _ rfl (by rw[World.cell?_alloc_at _ _ _ _ (by simp)];rfl) rfl (by omega) (by first|omega|(simp;omega)) ?_);intro v1 w1 hown1 hgr1))
      go_wp2_with fail
      go_roundg l2.length
      case measure=>rw[Hg.out];simp
      case rel =>
       refine⟨_,l2,op-1,out++[c],rfl,rfl,RdAt.grown (by exact RdAt.alloc HR.out.set1 _) hgr1 (own_ne HO.out hbB),?_,gr_then (by repeat (first|exact HG.out|apply gr_set|apply gr_drewN|apply gr_drew|apply gr_alloc)) hgr1 (fun j hj=>(HO.out.lt j hj).1),hown1,by first|omega|(simp;omega),by first|omega|(simp;omega),by first|omega|(simp;omega)⟩;rw[←HF.out]
       conv=>rhs;rw[litF_cons]
       simp[h1,h2,h3]
    ·rcases xbt ((c.toNat:Int)==13) with h3|h3
     ·cases l2 with
      | nil =>
       obtain⟨hlt2,hd2⟩:=HR.out.none2;go_wp2_with fail
       go_quiet (fail);go_wp2_with fail
       go_quiet (fail);go_wp2_with fail
       go_quiet (fail)
       go_wp2_with ((at_builtin;go_must (refine wpList_push rfl (.tmp 92) (.tmp 94) rfl w.heap.size _ out 10 _ rfl (by repeat (first|exact HO.out|apply OwnB.alloc|apply OwnB.drewN|apply OwnB.drew|(refine OwnB.set ?_ hbB _))) _ rfl (by rw[World.cell?_alloc_at _ _ _ _ (by simp)];rfl) rfl (by omega) (by first|omega|(simp;omega)) ?_);intro v1 w1 hown1 hgr1))
       go_wp2_with fail
       go_roundg 0
       case measure=>rw[Hg.out];simp
       case rel =>
        refine⟨_,[],op,out++[10],rfl,rfl,RdAt.grown (by exact RdAt.alloc HR.out.set1 _) hgr1 (own_ne HO.out hbB),?_,gr_then (by repeat (first|exact HG.out|apply gr_set|apply gr_drewN|apply gr_drew|apply gr_alloc)) hgr1 (fun j hj=>(HO.out.lt j hj).1),hown1,by first|omega|(simp;omega),by first|omega|(simp;omega),by first|omega|(simp;omega)⟩;rw[←HF.out]
        conv=>rhs;rw[litF_cons]
        simp[h1,h2,h3,skip10]
      | cons d l3 =>
       obtain⟨hlt2,hc2,hd2,hr2,hr3⟩:=HR.out.head2;rcases xbt ((d.toNat:Int)==10) with h8|h8
       ·go_wp2_with fail
        go_quiet (fail);go_wp2_with fail
        go_quiet (fail);go_wp2_with fail
        go_quiet (fail)
        go_wp2_with ((at_builtin;go_must (refine wpList_push rfl (.tmp 92) (.tmp 94) rfl w.heap.size _ out 10 _ rfl (by repeat (first|exact HO.out|apply OwnB.alloc|apply OwnB.drewN|apply OwnB.drew|(refine OwnB.set ?_ hbB _))) _ rfl (by rw[World.cell?_alloc_at _ _ _ _ (by simp)];rfl) rfl (by omega) (by first|omega|(simp;omega)) ?_);intro v1 w1 hown1 hgr1))
        go_wp2_with fail
        go_roundg l3.length
        case measure=>rw[Hg.out];simp;omega
        case rel =>
         refine⟨_,l3,op,out++[10],rfl,rfl,RdAt.grown (by exact RdAt.alloc HR.out.set11 _) hgr1 (own_ne HO.out hbB),?_,gr_then (by repeat (first|exact HG.out|apply gr_set|apply gr_drewN|apply gr_drew|apply gr_alloc)) hgr1 (fun j hj=>(HO.out.lt j hj).1),hown1,by first|omega|(simp;omega),by first|omega|(simp;omega),by first|omega|(simp;omega)⟩;rw[←HF.out]
         conv=>rhs;rw[litF_cons]
         simp[h1,h2,h3,skip10,h8]
       ·go_wp2_with fail
        go_quiet (fail);go_wp2_with fail
        go_quiet (fail);go_wp2_with fail
        go_quiet (fail)
        go_wp2_with ((at_builtin;go_must (refine wpList_push rfl (.tmp 92) (.tmp 94) rfl w.heap.size _ out 10 _ rfl (by repeat (first|exact HO.out|apply OwnB.alloc|apply OwnB.drewN|apply OwnB.drew|(refine OwnB.set ?_ hbB _))) _ rfl (by rw[World.cell?_alloc_at _ _ _ _ (by simp)];rfl) rfl (by omega) (by first|omega|(simp;omega)) ?_);intro v1 w1 hown1 hgr1))
        go_wp2_with fail
        go_roundg (l3.length+1)
        case measure=>rw[Hg.out];simp
        case rel =>
         refine⟨_,d::l3,op,out++[10],rfl,rfl,RdAt.grown (by exact RdAt.alloc HR.out.set1 _) hgr1 (own_ne HO.out hbB),?_,gr_then (by repeat (first|exact HG.out|apply gr_set|apply gr_drewN|apply gr_drew|apply gr_alloc)) hgr1 (fun j hj=>(HO.out.lt j hj).1),hown1,by first|omega|(simp;omega),by first|omega|(simp;omega),by first|omega|(simp;omega)⟩;rw[←HF.out]
         conv=>rhs;rw[litF_cons]
         simp[h1,h2,h3,skip10,h8]
     ·rcases xbt ((c.toNat:Int)==92) with h4|h4
      ·go_wp2_with fail
       go_quiet (fail);go_wp2_with fail
       go_quiet (fail);go_wp2_with fail
       refine(esc_any _ b s (p'++[c]) l2 bad deep odd ends (by exact HR.out.set1) (by omega)).mono ?_;rintro e w1⟨rfl,⟨p2,hR1⟩,hg1⟩;have hG1:w.grownBy w1 (some b):=gr_same (by repeat (first|exact HG.out|apply gr_set|apply gr_drewN|apply gr_drew|apply gr_alloc)) hg1;have hO1:OwnB w.heap.size w1 u3 out:=OwnB.kept (by repeat (first|exact HO.out|apply OwnB.alloc|apply OwnB.drewN|apply OwnB.drew|(refine OwnB.set ?_ hbB _))) hg1 (fun k hk=>by injection hk with hk;omega);have hB3:=hG1.size
       have hz2:p2.length≥p'.length+1:=by
        have e1:=hR1.size;have e2:=HR.out.size;have e3:=escF_len l2;simp at e2;omega
       have hp3:p2.length≤s.size:=by have:=hR1.size;omega
       clear HR HG HO c0 c1 c2 c3 c4 c5 cf;obtain⟨HR,HG,HO⟩:=xh3 hR1 hG1 hO1;clear hR1 hG1 hO1 hg1;obtain⟨c0,c1,c2,c3,c4,c5,cf⟩:=HR.out.cells;have hen:=escF_len l2;have her:=escF_range l2;rcases xbt (escF l2).2.1 with h5|h5
       ·obtain⟨x,hx⟩:∃x,x=(escF l2).1:=⟨_,rfl⟩
        rw[←hx]at her⊢;have Hx:=xhd hx;clear hx
        go_wp2_with ((at_builtin;go_must (refine wpList_push rfl (.tmp 88) (.tmp 90) rfl w.heap.size _ out (UInt8.ofNat x.toNat) _ rfl (by repeat (first|exact HO.out|apply OwnB.alloc|apply OwnB.drewN|apply OwnB.drew|(refine OwnB.set ?_ hbB _))) _ rfl (by rw[World.cell?_alloc_at _ _ _ _ (by simp)];rfl) (byte_of x her.1 her.2) (by omega) (by first|omega|(simp;omega)) ?_);intro v1 w1 hown1 hgr1))
        go_wp2_with fail
        go_roundg (escF l2).2.2.length
        case measure=>rw[Hg.out];simp;omega
        case rel =>
         refine⟨_,(escF l2).2.2,op,out++[UInt8.ofNat x.toNat],rfl,rfl,RdAt.grown (by exact RdAt.alloc HR.out _) hgr1 (own_ne HO.out hbB),?_,gr_then (by repeat (first|exact HG.out|apply gr_set|apply gr_drewN|apply gr_drew|apply gr_alloc)) hgr1 (fun j hj=>(HO.out.lt j hj).1),hown1,by first|omega|(simp;omega),by first|omega|(simp;omega),by first|omega|(simp;omega)⟩;rw[←HF.out]
         conv=>rhs;rw[litF_cons]
         simp[h1,h2,h3,h4,h5,Hx.out]
       ·go_wp2_with fail
        go_roundg (escF l2).2.2.length
        case measure=>rw[Hg.out];simp;omega
        case rel =>
         refine⟨_,(escF l2).2.2,op,out,rfl,rfl,HR.out,?_,HG.out,HO.out,by omega,by omega,by omega⟩;rw[←HF.out,litF_cons];simp[h1,h2,h3,h4,h5]
      ·go_wp2_with fail
       go_quiet (fail);go_wp2_with fail
       go_quiet (fail)
       go_wp2_with ((at_builtin;go_must (refine wpList_push rfl (.tmp 92) (.tmp 94) rfl w.heap.size _ out c _ rfl (by repeat (first|exact HO.out|apply OwnB.alloc|apply OwnB.drewN|apply OwnB.drew|(refine OwnB.set ?_ hbB _))) _ rfl (by rw[World.cell?_alloc_at _ _ _ _ (by simp)];rfl) rfl (by omega) (by first|omega|(simp;omega)) ?_);intro v1 w1 hown1 hgr1))
       go_wp2_with fail
       go_roundg l2.length
       case measure=>rw[Hg.out];simp
       case rel =>
        refine⟨_,l2,op,out++[c],rfl,rfl,RdAt.grown (by exact RdAt.alloc HR.out.set1 _) hgr1 (own_ne HO.out hbB),?_,gr_then (by repeat (first|exact HG.out|apply gr_set|apply gr_drewN|apply gr_drew|apply gr_alloc)) hgr1 (fun j hj=>(HO.out.lt j hj).1),hown1,by first|omega|(simp;omega),by first|omega|(simp;omega),by first|omega|(simp;omega)⟩;rw[←HF.out]
        conv=>rhs;rw[litF_cons]
        simp[h1,h2,h3,h4]
end Go.Proofs.YtfkecmlmnhbmoaaGreatDoor
