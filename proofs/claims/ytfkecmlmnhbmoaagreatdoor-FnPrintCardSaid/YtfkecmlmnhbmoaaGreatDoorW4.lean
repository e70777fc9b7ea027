/- Parts A4. -/
import Derived.Test.YtfkecmlmnhbmoaaGreatDoorW3
set_option linter.unusedVariables false
set_option linter.unusedSimpArgs false
set_option maxRecDepth 100000
set_option maxHeartbeats 40000000
namespace Go.Proofs.YtfkecmlmnhbmoaaGreatDoor
open Go Go.RowKit
theorem RdAt.head2 {w:World}{b:Nat}{s:ByteArray}{p l:By}{bad deep:Int}{odd ends:Bool}{c d:UInt8}(h:RdAt w b s p (c::d::l) bad deep odd ends) :
  ∃hk:p.length+1<s.size,s[p.length+1]'hk=d∧decide ((p.length:Int)+1<(s.size:Int))=true∧0≤(d.toNat:Int)∧(d.toNat:Int)≤255:=by
 obtain⟨hk,hc,_⟩:=h.set1.head';have e:(p++[c]).length=p.length+1:=by simp
 have hk2:p.length+1<s.size:=by omega
 refine⟨hk2,?_,by simp;omega,bi_range d⟩;rw[←hc];simp
theorem RdAt.none2 {w:World}{b:Nat}{s:ByteArray}{p:By}{bad deep:Int}{odd ends:Bool}{c:UInt8}(h:RdAt w b s p [c] bad deep odd ends) :
  ¬p.length+1<s.size∧decide ((p.length:Int)+1<(s.size:Int))=false:=by
 have:=h.size;simp at this;exact⟨by omega,by simp;omega⟩
theorem RdAt.set11 {w:World}{b:Nat}{s:ByteArray}{p l:By}{bad deep:Int}{odd ends:Bool}{c d:UInt8}(h:RdAt w b s p (c::d::l) bad deep odd ends) :
  RdAt ((w.setCell ⟨b,1,Option.none⟩ (.int .i64 (p.length+1))).setCell ⟨b,1,Option.none⟩ (.int .i64 (p.length+1+1))) b s (p++[c]++[d]) l bad deep odd ends:=by
 have:=h.set1.set1;simpa using this
theorem and255 {out:Int}(h0:0≤out)(h1:out≤511):bits BinOp.and IntKind.i64 out 255%256=out%256:=by
 obtain⟨k,rfl⟩:=Int.eq_ofNat_of_zero_le h0;have h:∀k:Fin 512,bits BinOp.and IntKind.i64 (k.val:Int) 255%256=(k.val:Int)%256:=by decide +kernel
 exact h ⟨k,by omega⟩
theorem ret_ub {a b:Int}{t:Bool}(h:a=b):Ending.returned (.tuple #[.int .u8 a,.bool t])=.returned (.tuple #[.int .u8 b,.bool t]):=by rw[h]
theorem esc_any (w:World)(b:Nat)(s:ByteArray)(p l:By)(bad deep:Int)(odd ends:Bool)(hR:RdAt w b s p l bad deep odd ends)(hs:s.size≤140737488351240) :
  Calls Tryz.prog 60 #[.pointer (some ⟨b,0,none⟩)] w fun e w'=>e=.returned (.tuple #[.int .u8 (escF l).1,.bool (escF l).2.1])∧(∃p',RdAt w' b s p' (escF l).2.2 bad deep odd ends)∧w.grownBy w' (some b):=by
 have HR:=xhd hR;have HG:=xhd (xgr w (some b));clear hR;obtain⟨c0,c1,c2,c3,c4,c5,cf⟩:=HR.out.cells;have hsz:=HR.out.size;clear hsz
 cases l with
 | nil =>
  obtain⟨hlt,hd⟩:=HR.out.none;go_enter Tryz.func60,Tryz.ntmps60;go_wp2_with fail
  go_quiet (fail);go_wp2_with fail
  go_ret2;exact⟨rfl,⟨p,HR.out⟩,(by repeat (first|exact HG.out|apply gr_set|apply gr_drewN|apply gr_drew|apply gr_alloc))⟩
 | cons c l2 =>
  obtain⟨hlt,hc,hd,hr0,hr1⟩:=HR.out.head';rcases xbt ((c.toNat:Int)==110) with h1|h1
  ·go_enter Tryz.func60,Tryz.ntmps60
   go_wp2_with fail
   go_quiet (fail);go_wp2_with fail
   go_quiet (fail);go_wp2_with fail
   go_ret2;have hE:escF (c::l2)=(10,true,l2):=by simp[escF,h1]
   rw[hE];exact⟨rfl,⟨p++[c],HR.out.set1⟩,(by repeat (first|exact HG.out|apply gr_set|apply gr_drewN|apply gr_drew|apply gr_alloc))⟩
  rcases xbt ((c.toNat:Int)==114) with h2|h2
  ·go_enter Tryz.func60,Tryz.ntmps60
   go_wp2_with fail
   go_quiet (fail);go_wp2_with fail
   go_quiet (fail);go_wp2_with fail
   go_ret2;have hE:escF (c::l2)=(13,true,l2):=by simp[escF,h1,h2]
   rw[hE];exact⟨rfl,⟨p++[c],HR.out.set1⟩,(by repeat (first|exact HG.out|apply gr_set|apply gr_drewN|apply gr_drew|apply gr_alloc))⟩
  rcases xbt ((c.toNat:Int)==116) with h3|h3
  ·go_enter Tryz.func60,Tryz.ntmps60
   go_wp2_with fail
   go_quiet (fail);go_wp2_with fail
   go_quiet (fail);go_wp2_with fail
   go_ret2;have hE:escF (c::l2)=(9,true,l2):=by simp[escF,h1,h2,h3]
   rw[hE];exact⟨rfl,⟨p++[c],HR.out.set1⟩,(by repeat (first|exact HG.out|apply gr_set|apply gr_drewN|apply gr_drew|apply gr_alloc))⟩
  rcases xbt ((c.toNat:Int)==98) with h4|h4
  ·go_enter Tryz.func60,Tryz.ntmps60
   go_wp2_with fail
   go_quiet (fail);go_wp2_with fail
   go_quiet (fail);go_wp2_with fail
   go_ret2;have hE:escF (c::l2)=(8,true,l2):=by simp[escF,h1,h2,h3,h4]
   rw[hE];exact⟨rfl,⟨p++[c],HR.out.set1⟩,(by repeat (first|exact HG.out|apply gr_set|apply gr_drewN|apply gr_drew|apply gr_alloc))⟩
  rcases xbt ((c.toNat:Int)==102) with h5|h5
  ·go_enter Tryz.func60,Tryz.ntmps60
   go_wp2_with fail
   go_quiet (fail);go_wp2_with fail
   go_quiet (fail);go_wp2_with fail
   go_ret2;have hE:escF (c::l2)=(12,true,l2):=by simp[escF,h1,h2,h3,h4,h5]
   rw[hE];exact⟨rfl,⟨p++[c],HR.out.set1⟩,(by repeat (first|exact HG.out|apply gr_set|apply gr_drewN|apply gr_drew|apply gr_alloc))⟩
  rcases xbt ((c.toNat:Int)==10) with h6|h6
  ·go_enter Tryz.func60,Tryz.ntmps60
   go_wp2_with fail
   go_quiet (fail);go_wp2_with fail
   go_quiet (fail);go_wp2_with fail
   go_ret2;have hE:escF (c::l2)=(0,false,l2):=by simp[escF,h1,h2,h3,h4,h5,h6]
   rw[hE];exact⟨rfl,⟨p++[c],HR.out.set1⟩,(by repeat (first|exact HG.out|apply gr_set|apply gr_drewN|apply gr_drew|apply gr_alloc))⟩
  rcases xbt ((c.toNat:Int)==13) with h7|h7
  ·have hE:escF (c::l2)=esc13 l2:=by simp[escF,h1,h2,h3,h4,h5,h6,h7]
   have HE:=xhd hE;clear hE
   cases l2 with
   | nil =>
    obtain⟨hlt2,hd2⟩:=HR.out.none2;go_enter Tryz.func60,Tryz.ntmps60;go_wp2_with fail
    go_quiet (fail);go_wp2_with fail
    go_quiet (fail);go_wp2_with fail
    go_quiet (fail);go_wp2_with fail
    go_ret2;rw[HE.out];exact⟨rfl,⟨p++[c],HR.out.set1⟩,(by repeat (first|exact HG.out|apply gr_set|apply gr_drewN|apply gr_drew|apply gr_alloc))⟩
   | cons d l3 =>
    obtain⟨hlt2,hc2,hd2,hr2,hr3⟩:=HR.out.head2;rcases xbt ((d.toNat:Int)==10) with h8|h8
    ·go_enter Tryz.func60,Tryz.ntmps60
     go_wp2_with fail
     go_quiet (fail);go_wp2_with fail
     go_quiet (fail);go_wp2_with fail
     go_quiet (fail);go_wp2_with fail
     go_ret2;rw[HE.out];have h9:esc13 (d::l3)=(0,false,l3):=by simp[esc13,h8]
     rw[h9];exact⟨rfl,⟨p++[c]++[d],HR.out.set11⟩,(by repeat (first|exact HG.out|apply gr_set|apply gr_drewN|apply gr_drew|apply gr_alloc))⟩
    ·go_enter Tryz.func60,Tryz.ntmps60
     go_wp2_with fail
     go_quiet (fail);go_wp2_with fail
     go_quiet (fail);go_wp2_with fail
     go_quiet (fail);go_wp2_with fail
     go_ret2;rw[HE.out];have h9:esc13 (d::l3)=(0,false,d::l3):=by simp[esc13,h8]
     rw[h9];exact⟨rfl,⟨p++[c],HR.out.set1⟩,(by repeat (first|exact HG.out|apply gr_set|apply gr_drewN|apply gr_drew|apply gr_alloc))⟩
  ·by_cases h8 : (c.toNat : Int) < 48 ∨ 55 < (c.toNat : Int)
   ·have hE:escF (c::l2)=((c.toNat:Int),true,l2):=by simp[escF,h1,h2,h3,h4,h5,h6,h7];intro a b;omega
    have HE:=xhd hE;clear hE;rcases h8 with h8|h8
    all_goals
     go_enter Tryz.func60,Tryz.ntmps60;go_wp2_with fail
     go_quiet (fail);go_wp2_with fail
     go_quiet (fail);go_wp2_with fail
     go_ret2;rw[HE.out];exact⟨rfl,⟨p++[c],HR.out.set1⟩,(by repeat (first|exact HG.out|apply gr_set|apply gr_drewN|apply gr_drew|apply gr_alloc))⟩
   ·have h9 : 48 ≤ (c.toNat : Int) := by omega
    have h10:(c.toNat:Int)≤55:=by omega
    clear h8
    have hE:escF (c::l2)=((octM 2 l2 ((c.toNat:Int)-48)).1%256,true,(octM 2 l2 ((c.toNat:Int)-48)).2):=by
     have h11:¬((c.toNat:Int)<48∨55<(c.toNat:Int)):=by omega
     simp only[escF,h1,h2,h3,h4,h5,h6,h7,if_neg h11];rfl
    have HE:=xhd hE;clear hE;go_enter Tryz.func60,Tryz.ntmps60;go_wp2_with fail
    go_quiet (fail);go_wp2_with fail
    go_quiet (fail);go_wp2_with fail
    go_loopg [5,6] 2 (fun g t5 t6 wr=>∃p' l' out n,g=3-n∧t5=.int .i64 out∧t6=.int .i64 (n:Nat)∧RdAt wr b s p' l' bad deep odd ends∧octM (3-n) l' out=octM 2 l2 ((c.toNat:Int)-48)∧w.grownBy wr (some b)∧0≤out∧(n=1∧out≤7∨n=2∧out≤63∨n=3∧out≤511))
    case atStart=>exact⟨p++[c],l2,(c.toNat:Int)-48,1,rfl,rfl,rfl,HR.out.set1,rfl,(by repeat (first|exact HG.out|apply gr_set|apply gr_drewN|apply gr_drew|apply gr_alloc)),by omega,.inl ⟨rfl,by omega⟩⟩
    case round =>
     obtain⟨p',l',out,n,hg,rfl,rfl,hR2,hO,hG,ho1,ho2⟩:=hrel;clear hlt hc hd hr0 hr1 c0 c1 c2 c3 c4 c5 cf HG;obtain⟨HR2,HO,HG,Hg⟩:=xh4 hR2 hO hG hg;clear hR2 hO hG hg;obtain⟨c0,c1,c2,c3,c4,c5,cf⟩:=HR2.out.cells
     cases l' with
     | nil =>
      obtain⟨hlt2,hd2⟩:=HR2.out.none;go_wp2_with fail
      go_quiet (fail);go_wp2_with fail
      go_ret2;have hfin:octM 2 l2 ((c.toNat:Int)-48)=(out,[]):=by rw[←HO.out];rcases ho2 with⟨rfl,_⟩|⟨rfl,_⟩|⟨rfl,_⟩<;>rfl
      rw[HE.out,hfin];exact⟨ret_ub (and255 ho1 (by omega)),⟨p',HR2.out⟩,(by repeat (first|exact HG.out|apply gr_set|apply gr_drewN|apply gr_drew|apply gr_alloc))⟩
     | cons d l3 =>
      obtain⟨hlt2,hc2,hd2,hr2,hr3⟩:=HR2.out.head';rcases ho2 with⟨rfl,ho2⟩|⟨rfl,ho2⟩|⟨rfl,ho2⟩
      rotate_right
      ·go_wp2_with fail
       go_quiet (fail);go_wp2_with fail
       go_ret2;have hfin:octM 2 l2 ((c.toNat:Int)-48)=(out,d::l3):=by rw[←HO.out];rfl
       rw[HE.out,hfin];exact⟨ret_ub (and255 ho1 (by omega)),⟨p',HR2.out⟩,(by repeat (first|exact HG.out|apply gr_set|apply gr_drewN|apply gr_drew|apply gr_alloc))⟩
      all_goals
       by_cases h11:(d.toNat:Int)<48
       ·have h12:decide (48≤(d.toNat:Int))=false:=by simp;omega
        go_wp2_with fail
        go_quiet (fail);go_wp2_with fail
        go_ret2;have hfin:octM 2 l2 ((c.toNat:Int)-48)=(out,d::l3):=by rw[←HO.out];exact if_neg (by omega)
        rw[HE.out,hfin];exact⟨ret_ub (and255 ho1 (by omega)),⟨p',HR2.out⟩,(by repeat (first|exact HG.out|apply gr_set|apply gr_drewN|apply gr_drew|apply gr_alloc))⟩
       ·have h12:decide (48≤(d.toNat:Int))=true:=by simp;omega
        by_cases h13:55<(d.toNat:Int)
        ·have h14:decide ((d.toNat:Int)≤55)=false:=by simp;omega
         go_wp2_with fail
         go_quiet (fail);go_wp2_with fail
         go_ret2;have hfin:octM 2 l2 ((c.toNat:Int)-48)=(out,d::l3):=by rw[←HO.out];exact if_neg (by omega)
         rw[HE.out,hfin];exact⟨ret_ub (and255 ho1 (by omega)),⟨p',HR2.out⟩,(by repeat (first|exact HG.out|apply gr_set|apply gr_drewN|apply gr_drew|apply gr_alloc))⟩
        ·have h14:decide ((d.toNat:Int)≤55)=true:=by simp;omega
         go_wp2_with fail
         go_quiet (fail);go_wp2_with fail
         go_quiet (fail);go_wp2_with fail
         first
          | (go_roundg 1;(case measure=>rw[Hg.out];decide);(case rel=>exact⟨p'++[d],l3,8*out+((d.toNat:Int)-48),2,rfl,rfl,rfl,HR2.out.set1,by rw[←HO.out];exact(if_pos ⟨by omega,by omega⟩).symm,(by repeat (first|exact HG.out|apply gr_set|apply gr_drewN|apply gr_drew|apply gr_alloc)),by omega,.inr (.inl ⟨rfl,by omega⟩)⟩))
          | (go_roundg 0;(case measure=>rw[Hg.out];decide);(case rel=>exact⟨p'++[d],l3,8*out+((d.toNat:Int)-48),3,rfl,rfl,rfl,HR2.out.set1,by rw[←HO.out];exact(if_pos ⟨by omega,by omega⟩).symm,(by repeat (first|exact HG.out|apply gr_set|apply gr_drewN|apply gr_drew|apply gr_alloc)),by omega,.inr (.inr ⟨rfl,by omega⟩)⟩))
end Go.Proofs.YtfkecmlmnhbmoaaGreatDoor
