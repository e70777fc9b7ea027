/- FnParse: the texts G14 G15 G17 G18 P20 of the workbench, laid together. -/
import Derived.Test.YtfkecmlmnhbmoaaGreatDoorProg
import Derived.WalkKit
import Derived.WalkLawsBesides
import Derived.WalkSpells
import Derived.BigQuiet
import Derived.BigRegion
import Derived.Deep.QuietTactic
import Derived.Deep.RegionHeld3
import Derived.Deep.LoopGhost
import Derived.StillTailTactics
import Derived.Lib.Hide
import Derived.Laws.EntriesVeiled
import Derived.LaidEqlPtr
import Derived.Test.YtfkecmlmnhbmoaaGreatDoorZ12
import Derived.Test.YtfkecmlmnhbmoaaGreatDoorZ18
import Derived.Test.YtfkecmlmnhbmoaaGreatDoorZ30
set_option linter.unusedVariables false
set_option linter.unusedSimpArgs false
namespace Go.Proofs.YtfkecmlmnhbmoaaGreatDoor
open Go Go.RowKit
def numCs:By:=[47,60,40,91,93,62,37]
set_option maxRecDepth 100000 in
set_option maxHeartbeats 40000000 in
theorem start_any (pf:By→Nat) (l:By) (ho:wordO l false=false) (hw:wordT l≠[]) (hn:(numF pf (wordT l)).2.2.2≠1) (hl:l.length≤1000000) (w:World) :
    Calls Tryz.prog 137 #[.string (bs l)] w fun e w'=>e=.returned (.tuple #[.string (bs (wordT l)),.string (bs (wordR l)),.int .i64 (if wordR l=[] then -1 else ((wordT l).length:Int))])∧Below w.heap.size w w':=by
  have hpos:=pos_any (bs l) numCs (by decide) (by decide)
  rw [word_pos numCs (by decide) (by decide) ho] at hpos
  obtain ⟨y,hy⟩:∃ y,y=bs l:=⟨_,rfl⟩
  have hys:y.size=l.length:=by rw [hy,bs_size]
  have hwl:(wordT l).length≤l.length:=(List.takeWhile_sublist _).length_le
  have hx1:y.extract 0 (wordT l).length=bs (wordT l):=by
    rw [hy,bs_take];congr 1
    conv=>lhs;arg 2;rw [←word_split (l:=l)]
    simp
  have hx2:y.extract (wordT l).length y.size=bs (wordR l):=by
    rw [hys,hy,bs_drop];congr 1
    conv=>lhs;arg 2;rw [←word_split (l:=l)]
    simp
  have hx3:y.extract y.size y.size=bs []:=by rw [hys,hy,bs_drop];simp
  have hyR:wordR l=[]→y=bs (wordT l):=by
    intro e
    rw [hy]
    conv=>lhs;rw [←word_split (l:=l),e,List.append_nil]
  have hch:=num_chars hn
  rw [←hy] at hpos ⊢
  obtain ⟨W,hW⟩:∃ W,W=wordT l:=⟨_,rfl⟩
  obtain ⟨R,hR⟩:∃ R,R=wordR l:=⟨_,rfl⟩
  rw [←hW] at hpos hwl hx1 hx2 hyR hch hw ⊢
  rw [←hR] at hpos hx2 hyR ⊢
  have hW1:0 < W.length:=List.length_pos_iff.2 hw
  have hle:W.length≤y.size:=by omega
  have HyR:=Lib.hid hyR
  have Hch:=Lib.hid hch
  clear hW hR hy hys hn ho hyR hch hw
  obtain ⟨u,hu⟩:∃ u,u=bs W:=⟨_,rfl⟩
  have hus:u.size=W.length:=by rw [hu,bs_size]
  have hub:∀ (i:Nat) (hk:i < u.size),∃ h2:i < W.length,u[i]'hk=W[i]'h2:=by
    intro i hk
    refine ⟨by omega,?_⟩
    simp only [hu]
    exact bs_get W i (by rw [bs_size];omega)
  rw [←hu] at hx1 HyR ⊢
  have Hub:=Lib.hid hub
  have Hu:=Lib.hid hu
  have Hus:=Lib.hid hus
  have hul:u.size≤1000000:=by omega
  have hWl:W.length≤1000000:=by omega
  clear hub hu hus
  by_cases hRn:R=[]
  · subst hRn
    have hyu:=(HyR.out rfl).symm
    subst hyu
    simp only [if_true] at hpos ⊢
    go_enter Tryz.func137,Tryz.ntmps137
    go_wp2_with fail
    refine (hpos _).mono ?_
    rintro e w2 ⟨⟨v,rfl⟩,hb2⟩
    clear hx1 hx2 hpos HyR
    cases hWc:W with
    | nil=>rw [hWc] at hW1;simp at hW1
    | cons c W1 =>
      have hg0:∀ hk:0 < u.size,u[0]'hk=c:=fun hk=>by rw [(Hub.out 0 hk).2];simp [hWc]
      have hk0:0 < u.size:=by rw [Hus.out];omega
      have hg0':=hg0 hk0
      cases W1 with
      | nil =>
        have hl1:¬(1:Int) < u.size:=by rw [Hus.out,hWc];simp
        clear hWc
        have y30:∀ (a b c:Value),([a,b,c]:List Value)[0]?=some a:=fun _ _ _=>rfl
        have y31:∀ (a b c:Value),([a,b,c]:List Value)[1]?=some b:=fun _ _ _=>rfl
        have y32:∀ (a b c:Value),([a,b,c]:List Value)[2]?=some c:=fun _ _ _=>rfl
        go_wp2_with fail
        refine bodyPost_ret (v:=.tuple #[.string u,.string ⟨#[]⟩,.int .i64 (-1)]) (by simp [results,Tryz.results137,go_sem]<;>rfl) rfl ⟨rfl,hb2⟩
      | cons d W2 =>
        have hl1:(1:Int) < u.size:=by rw [Hus.out,hWc];simp;omega
        have hk1:1 < u.size:=by omega
        have hg1:u[1]'hk1=d:=by rw [(Hub.out 1 hk1).2];simp [hWc]
        rcases Bool.eq_false_or_eq_true ((c.toNat:Int) == 48) with h48 | h48
        · have hall:∀ x∈W,isDig (x.toNat:Int)=true∨(x.toNat:Int)=46:=by
            have:=Hch.out
            rw [hWc] at this ⊢
            simp only [numStrip] at this
            rw [if_neg (by simp at h48 ⊢;omega)] at this
            exact this
          have hd:=hall d (by rw [hWc];simp)
          simp only [isDig] at hd
          have Hall:=Lib.hid hall
          clear hall hWc
          have h43:((d.toNat:Int) == 43)=false:=by simp at hd ⊢;omega
          have h45:((d.toNat:Int) == 45)=false:=by simp at hd ⊢;omega
          clear hd
          rcases Bool.eq_false_or_eq_true ((d.toNat:Int) == 46) with h46 | h46
          · go_wp2_with fail
            go_loopg [9] u.size (fun g t9 wr=>∃ i:Nat,t9=.int .i64 i∧i≤u.size∧u.size≤g + i∧wr=w2)
            case atStart=>exact ⟨2,rfl,by omega,by omega,rfl⟩
            case round =>
              obtain ⟨i,rfl,hi,hg,hwr⟩:=hrel
              subst wr
              by_cases hiu:i < u.size
              · have hgi:=Hub.out i hiu
                obtain ⟨x,hx⟩:∃ x,x=u[i]'hiu:=⟨_,rfl⟩
                have hx2:=Hall.out x (by rw [hx,hgi.2];exact List.getElem_mem _)
                simp only [isDig] at hx2
                have hxg:u[i]'hiu=x:=hx.symm
                clear hgi hx
                rcases Bool.eq_false_or_eq_true ((x.toNat:Int) == 48) with hx48 | hx48
                · go_wp2_with fail
                  go_roundg (gk - 1)
                  case measure=>omega
                  case rel=>exact ⟨i + 1,rfl,by omega,by omega,rfl⟩
                · have hx43:((x.toNat:Int) == 43)=false:=by simp at hx2 ⊢;omega
                  have hx45:((x.toNat:Int) == 45)=false:=by simp at hx2 ⊢;omega
                  clear hx2
                  have y30:∀ (a b c:Value),([a,b,c]:List Value)[0]?=some a:=fun _ _ _=>rfl
                  have y31:∀ (a b c:Value),([a,b,c]:List Value)[1]?=some b:=fun _ _ _=>rfl
                  have y32:∀ (a b c:Value),([a,b,c]:List Value)[2]?=some c:=fun _ _ _=>rfl
                  go_wp2_with fail
                  refine bodyPost_ret (v:=.tuple #[.string u,.string ⟨#[]⟩,.int .i64 (-1)]) (by simp [results,Tryz.results137,go_sem]<;>rfl) rfl ⟨rfl,hb2⟩
              · have y30:∀ (a b c:Value),([a,b,c]:List Value)[0]?=some a:=fun _ _ _=>rfl
                have y31:∀ (a b c:Value),([a,b,c]:List Value)[1]?=some b:=fun _ _ _=>rfl
                have y32:∀ (a b c:Value),([a,b,c]:List Value)[2]?=some c:=fun _ _ _=>rfl
                go_wp2_with fail
                refine bodyPost_ret (v:=.tuple #[.string u,.string ⟨#[]⟩,.int .i64 (-1)]) (by simp [results,Tryz.results137,go_sem]<;>rfl) rfl ⟨rfl,hb2⟩
          · have y30:∀ (a b c:Value),([a,b,c]:List Value)[0]?=some a:=fun _ _ _=>rfl
            have y31:∀ (a b c:Value),([a,b,c]:List Value)[1]?=some b:=fun _ _ _=>rfl
            have y32:∀ (a b c:Value),([a,b,c]:List Value)[2]?=some c:=fun _ _ _=>rfl
            go_wp2_with fail
            refine bodyPost_ret (v:=.tuple #[.string u,.string ⟨#[]⟩,.int .i64 (-1)]) (by simp [results,Tryz.results137,go_sem]<;>rfl) rfl ⟨rfl,hb2⟩
        · clear hWc
          have y30:∀ (a b c:Value),([a,b,c]:List Value)[0]?=some a:=fun _ _ _=>rfl
          have y31:∀ (a b c:Value),([a,b,c]:List Value)[1]?=some b:=fun _ _ _=>rfl
          have y32:∀ (a b c:Value),([a,b,c]:List Value)[2]?=some c:=fun _ _ _=>rfl
          go_wp2_with fail
          refine bodyPost_ret (v:=.tuple #[.string u,.string ⟨#[]⟩,.int .i64 (-1)]) (by simp [results,Tryz.results137,go_sem]<;>rfl) rfl ⟨rfl,hb2⟩
  · rw [if_neg hRn] at hpos ⊢
    obtain ⟨n,hn⟩:∃ n,n=W.length:=⟨_,rfl⟩
    have hn0:0 < n:=by omega
    have hn1:n≤1000000:=by omega
    rw [←hn] at hx1 hx2 hle hpos ⊢
    have Hn:=Lib.hid hn
    clear hn
    go_enter Tryz.func137,Tryz.ntmps137
    go_wp2_with fail
    refine (hpos _).mono ?_
    rintro e w2 ⟨⟨v,rfl⟩,hb2⟩
    clear hpos HyR
    cases hWc:W with
    | nil=>rw [hWc] at hW1;simp at hW1
    | cons c W1 =>
      have hg0:∀ hk:0 < u.size,u[0]'hk=c:=fun hk=>by rw [(Hub.out 0 hk).2];simp [hWc]
      have hk0:0 < u.size:=by rw [Hus.out];omega
      have hg0':=hg0 hk0
      cases W1 with
      | nil =>
        have hl1:¬(1:Int) < u.size:=by rw [Hus.out,hWc];simp
        clear hWc
        have y30:∀ (a b c:Value),([a,b,c]:List Value)[0]?=some a:=fun _ _ _=>rfl
        have y31:∀ (a b c:Value),([a,b,c]:List Value)[1]?=some b:=fun _ _ _=>rfl
        have y32:∀ (a b c:Value),([a,b,c]:List Value)[2]?=some c:=fun _ _ _=>rfl
        go_wp2_with fail
        refine bodyPost_ret (v:=.tuple #[.string u,.string (bs R),.int .i64 (n:Int)]) (by simp [results,Tryz.results137,go_sem]<;>rfl) rfl ⟨rfl,hb2⟩
      | cons d W2 =>
        have hl1:(1:Int) < u.size:=by rw [Hus.out,hWc];simp;omega
        have hk1:1 < u.size:=by omega
        have hg1:u[1]'hk1=d:=by rw [(Hub.out 1 hk1).2];simp [hWc]
        rcases Bool.eq_false_or_eq_true ((c.toNat:Int) == 48) with h48 | h48
        · have hall:∀ x∈W,isDig (x.toNat:Int)=true∨(x.toNat:Int)=46:=by
            have:=Hch.out
            rw [hWc] at this ⊢
            simp only [numStrip] at this
            rw [if_neg (by simp at h48 ⊢;omega)] at this
            exact this
          have hd:=hall d (by rw [hWc];simp)
          simp only [isDig] at hd
          have Hall:=Lib.hid hall
          clear hall hWc
          have h43:((d.toNat:Int) == 43)=false:=by simp at hd ⊢;omega
          have h45:((d.toNat:Int) == 45)=false:=by simp at hd ⊢;omega
          clear hd
          rcases Bool.eq_false_or_eq_true ((d.toNat:Int) == 46) with h46 | h46
          · go_wp2_with fail
            go_loopg [9] u.size (fun g t9 wr=>∃ i:Nat,t9=.int .i64 i∧i≤u.size∧u.size≤g + i∧wr=w2)
            case atStart=>exact ⟨2,rfl,by omega,by omega,rfl⟩
            case round =>
              obtain ⟨i,rfl,hi,hg,hwr⟩:=hrel
              subst wr
              by_cases hiu:i < u.size
              · have hgi:=Hub.out i hiu
                obtain ⟨x,hx⟩:∃ x,x=u[i]'hiu:=⟨_,rfl⟩
                have hx2:=Hall.out x (by rw [hx,hgi.2];exact List.getElem_mem _)
                simp only [isDig] at hx2
                have hxg:u[i]'hiu=x:=hx.symm
                clear hgi hx
                rcases Bool.eq_false_or_eq_true ((x.toNat:Int) == 48) with hx48 | hx48
                · go_wp2_with fail
                  go_roundg (gk - 1)
                  case measure=>omega
                  case rel=>exact ⟨i + 1,rfl,by omega,by omega,rfl⟩
                · have hx43:((x.toNat:Int) == 43)=false:=by simp at hx2 ⊢;omega
                  have hx45:((x.toNat:Int) == 45)=false:=by simp at hx2 ⊢;omega
                  clear hx2
                  have y30:∀ (a b c:Value),([a,b,c]:List Value)[0]?=some a:=fun _ _ _=>rfl
                  have y31:∀ (a b c:Value),([a,b,c]:List Value)[1]?=some b:=fun _ _ _=>rfl
                  have y32:∀ (a b c:Value),([a,b,c]:List Value)[2]?=some c:=fun _ _ _=>rfl
                  go_wp2_with fail
                  refine bodyPost_ret (v:=.tuple #[.string u,.string (bs R),.int .i64 (n:Int)]) (by simp [results,Tryz.results137,go_sem]<;>rfl) rfl ⟨rfl,hb2⟩
              · have y30:∀ (a b c:Value),([a,b,c]:List Value)[0]?=some a:=fun _ _ _=>rfl
                have y31:∀ (a b c:Value),([a,b,c]:List Value)[1]?=some b:=fun _ _ _=>rfl
                have y32:∀ (a b c:Value),([a,b,c]:List Value)[2]?=some c:=fun _ _ _=>rfl
                go_wp2_with fail
                refine bodyPost_ret (v:=.tuple #[.string u,.string (bs R),.int .i64 (n:Int)]) (by simp [results,Tryz.results137,go_sem]<;>rfl) rfl ⟨rfl,hb2⟩
          · have y30:∀ (a b c:Value),([a,b,c]:List Value)[0]?=some a:=fun _ _ _=>rfl
            have y31:∀ (a b c:Value),([a,b,c]:List Value)[1]?=some b:=fun _ _ _=>rfl
            have y32:∀ (a b c:Value),([a,b,c]:List Value)[2]?=some c:=fun _ _ _=>rfl
            go_wp2_with fail
            refine bodyPost_ret (v:=.tuple #[.string u,.string (bs R),.int .i64 (n:Int)]) (by simp [results,Tryz.results137,go_sem]<;>rfl) rfl ⟨rfl,hb2⟩
        · clear hWc
          have y30:∀ (a b c:Value),([a,b,c]:List Value)[0]?=some a:=fun _ _ _=>rfl
          have y31:∀ (a b c:Value),([a,b,c]:List Value)[1]?=some b:=fun _ _ _=>rfl
          have y32:∀ (a b c:Value),([a,b,c]:List Value)[2]?=some c:=fun _ _ _=>rfl
          go_wp2_with fail
          refine bodyPost_ret (v:=.tuple #[.string u,.string (bs R),.int .i64 (n:Int)]) (by simp [results,Tryz.results137,go_sem]<;>rfl) rfl ⟨rfl,hb2⟩
end Go.Proofs.YtfkecmlmnhbmoaaGreatDoor
namespace Go.Proofs.YtfkecmlmnhbmoaaGreatDoor
open Go Go.RowKit
theorem repl_none (l:By) (c:UInt8) (t:ByteArray) (h:c∉l) (hl:l.length≤1000000) (w:World):Calls Tryz.prog 195 #[.string (bs l),.string (bs [c]),.string t] w fun e w'=>e=.returned (.string (bs l))∧w'=w:=by
  have hi:=index_any l c (by omega) w
  rw [idxB_none c l h] at hi
  go_enter Tryz.func195,Tryz.ntmps195
  go_wp2_with fail
  refine hi.mono ?_
  rintro e w1 ⟨rfl,hw⟩
  subst w1
  go_wp2_with fail
  go_ret
  exact ⟨rfl,rfl⟩
set_option maxRecDepth 100000 in
set_option maxHeartbeats 40000000 in
theorem pfl_any (pf:By→Nat) (W0:World) (hpf:PFC pf W0) (l:By) (hok:numOk l) (hch:∀ c∈l,(c.toNat:Int)≠44) (hl:l.length≤1000000) (w:World) (hE:Env W0 w):Calls Tryz.prog 139 #[.string (bs l)] w fun e w'=>e=.returned (.tuple #[.iface 68 (.float .f64 (pf l)),.nilIface])∧w.grownBy w' none:=by
  have hr:=repl_none l 44 ⟨#[46]⟩ (fun hm=>hch 44 hm rfl) hl w
  have e44:(⟨#[44]⟩:ByteArray)=bs [44]:=rfl
  go_enter Tryz.func139,Tryz.ntmps139
  go_wp2_with fail
  refine hr.mono ?_
  rintro e w1 ⟨rfl,hw⟩
  subst w1
  go_wp2_with fail
  refine (hpf l w hok hE).mono ?_
  rintro e w2 ⟨rfl,hg⟩
  go_wp2_with fail
  go_ret2
  exact ⟨rfl,hg⟩
structure ErrAB (W0:World) (a b:Addr) (ca cb:Array Value):Prop where
  syn:W0.cell? ⟨2,0,Option.none⟩=some (.iface 233 (.pointer (some a)))
  ran:W0.cell? ⟨3,0,Option.none⟩=some (.iface 233 (.pointer (some b)))
  ne:a≠b
  ha:∃ t,W0.heap[a.block]?=some (.cells ca t (0,0))
  hb:∃ t,W0.heap[b.block]?=some (.cells cb t (0,0))
theorem ErrAB.env {W0 w:World} {a b:Addr} {ca cb:Array Value} (h:ErrAB W0 a b ca cb) (hE:Env W0 w):ErrAB w a b ca cb :=
  let ⟨ta,ha⟩:=h.ha
  let ⟨tb,hb⟩:=h.hb
  ⟨hE.cell h.syn,hE.cell h.ran,h.ne,⟨ta,(hE.2 _ (Array.getElem?_eq_some_iff.1 ha).1).trans ha⟩,⟨tb,(hE.2 _ (Array.getElem?_eq_some_iff.1 hb).1).trans hb⟩⟩
set_option maxRecDepth 100000 in
set_option maxHeartbeats 40000000 in
theorem rangeErr_any (w:World) (N:Nat) (f s:Value) (a b:Addr) (ca cb:Array Value) (hAB:ErrAB w a b ca cb) (h:w.heap[N]?=some (.cells #[f,s,.iface 233 (.pointer (some a))] 168 (0,0))) :
    Calls Tryz.prog 138 #[.iface 134 (.pointer (some ⟨N,0,none⟩))] w fun e w'=>e=.returned (.bool false)∧∃ n,w'=w.drewN n:=by
  have c2:w.cell? ⟨N,2,none⟩=some (.iface 233 (.pointer (some a))):=by simp [World.cell?,h]
  have c3:=hAB.ran
  have hta:∀ w,(Instr.typeAssert (.iface 134 (.pointer (some ⟨N,0,none⟩))) 92 134 true).run Tryz.prog w=.ok (.tuple #[.pointer (some ⟨N,0,none⟩),.bool true]) w:=fun w=>by kernel_rfl
  have hi1:(Tryz.prog.info? 233).map (fun i=>i.comparable)=some true:=by kernel_rfl
  have hi2:(Tryz.prog.info? 235).map (fun i=>i.size)=some 1:=by kernel_rfl
  obtain ⟨i,hi,hic⟩:=Option.map_eq_some_iff.1 hi1
  obtain ⟨j,hj,hjs⟩:=Option.map_eq_some_iff.1 hi2
  obtain ⟨ta,hha⟩:=hAB.ha
  obtain ⟨tb,hhb⟩:=hAB.hb
  have heq:=run_eql_iface_ptr_other w Tryz.underlying92 Tryz.underlying233 hi hic hj (by omega) hAB.ne hha hhb
  have heq2:∀ n,(binOp .eql 92 (.iface 233 (.pointer (some a))) (.iface 233 (.pointer (some b)))).run Tryz.prog (w.drewN n)=.ok (.bool false) (w.drewN n):=fun n=>run_eql_iface_ptr_other (w.drewN n) Tryz.underlying92 Tryz.underlying233 hi hic hj (by omega) hAB.ne hha hhb
  clear hAB h hha hhb
  go_enter Tryz.func138,Tryz.ntmps138
  go_wp2_with fail
  go_quiet ((first|(go_at_call 42;with_reducible first|exact qaw _|exact qbw _)|(go_at_call 43;with_reducible first|exact qap _|exact qbp _)|(go_at_call 52;with_reducible first|exact qad _|exact qbd _)|(go_at_call 76;with_reducible first|exact qar _|exact qbr _)|(go_at_call 75;with_reducible first|exact qag _|exact qbg _)));go_wp2_with fail
  go_ret
  exact ⟨rfl,_,rfl⟩
end Go.Proofs.YtfkecmlmnhbmoaaGreatDoor
namespace Go.Proofs.YtfkecmlmnhbmoaaGreatDoor
open Go Go.RowKit
set_option maxRecDepth 100000 in
set_option maxHeartbeats 40000000 in
theorem newref_any (i g:Int) (w:World):Calls Tryz.prog 38 #[.int .i64 i,.int .i64 g] w fun e w'=>e=.returned (.pointer (some ⟨w.heap.size,0,none⟩))∧w'=w.alloc (.cells #[.int .i64 i,.int .i64 g] 73 (0,0)):=by
  go_enter Tryz.func38,Tryz.ntmps38
  go_wp2
  go_ret
  exact ⟨rfl,rfl⟩
def intI (i:Int):Ending:=.returned (.tuple #[.iface 67 (.int .i64 i),.nilIface])
def refI (i g:Int):Ending:=.returned (.tuple #[.iface 73 (.agg #[.int .i64 i,.int .i64 g]),.nilIface])
def IndPost (w w':World) (b:Nat) (L1 c:By) (i g:Int) (e:Ending):Prop :=
  ((c.head?=some 82∧e=refI i g∧LineAt w' b c.tail)∨(c.head?≠some 82∧e=intI i∧LineAt w' b L1))∧w.grownBy w' (some b)
set_option maxRecDepth 100000 in
set_option maxHeartbeats 40000000 in
theorem ind_err (W0 w:World) (hI:InitP W0) (hE:Env W0 w) (b:Nat) (S L L1 l0:By) (i i2:Int) (hL:LineAt w b l0) (hS:∀ u,Lib.atoiAll S≠.ok u) (hSl:S.length≤1000000) :
    Calls Tryz.prog 141 #[.string (bs S),.string (bs L),.string (bs L1),.pointer (some ⟨b,0,none⟩),.int .i64 i,.int .i64 i2] w fun e w'=>e=intI i∧LineAt w' b L1∧w.grownBy w' (some b):=by
  have hat:=atoi_any W0 w hI.init hE (bs S) (by rw [bs_size];omega)
  rw [bs_list] at hat
  have HS:=Lib.hid hS
  have HL:=Lib.hid hL
  clear hS hL hI hE
  go_enter Tryz.func141,Tryz.ntmps141
  go_wp2_with fail
  refine hat.mono ?_
  rintro e w1 ⟨hg1,⟨v,hv,rfl⟩ | ⟨v,N,hv,rfl⟩⟩
  · exact absurd hv (HS.out v)
  · have hL1:=HL.out.keep hg1 (by simp)
    obtain ⟨c1,f1⟩:=hL1.cell
    have HL1:=Lib.hid hL1
    have HG1:=Lib.hid (hg1.but (some b))
    clear hat hv hL1 hg1
    go_wp2_with fail
    go_ret2
    exact ⟨rfl,HL1.out.set _,gr_set HG1.out _ _⟩
set_option maxRecDepth 100000 in
set_option maxHeartbeats 40000000 in
theorem ind_ok (W0 w:World) (hI:InitP W0) (hE:Env W0 w) (b:Nat) (S L L1 l0 c:By) (i g:Int) (i2:Nat) (hL:LineAt w b l0) (hS:Lib.atoiAll S=.ok g) (hSl:S.length≤1000000) (hLl:L.length≤1000000) (hi2:i2≤L.length) (hp:passM false (L.drop i2) false=(c,false)) (hc:∀ x∈c.head?,isPlain (x.toNat:Int)=true) :
    Calls Tryz.prog 141 #[.string (bs S),.string (bs L),.string (bs L1),.pointer (some ⟨b,0,none⟩),.int .i64 i,.int .i64 i2] w fun e w'=>IndPost w w' b L1 c i g e:=by
  have hat:=atoi_any W0 w hI.init hE (bs S) (by rw [bs_size];omega)
  rw [bs_list] at hat
  have HS:=Lib.hid hS
  have HL:=Lib.hid hL
  obtain ⟨z,hz⟩:∃ z,z=bs L:=⟨_,rfl⟩
  have hzs:i2≤z.size:=by rw [hz,bs_size];exact hi2
  have hx:z.extract i2 z.size=bs (L.drop i2):=by rw [hz,bs_size,bs_drop]
  have htr:=fun w=>trim_any2 (L.drop i2) c w hp hc
  rw [←hz]
  have hzl:z.size≤1000000:=by rw [hz,bs_size];exact hLl
  clear hS hL hI hE hz
  go_enter Tryz.func141,Tryz.ntmps141
  go_wp2_with fail
  refine hat.mono ?_
  rintro e w1 ⟨hg1,⟨v,hv,rfl⟩ | ⟨v,N,hv,rfl⟩⟩
  · obtain rfl:v=g:=by rw [HS.out] at hv;injection hv with hv;exact hv.symm
    have HG1:=Lib.hid hg1
    clear hat hv hg1
    go_wp2_with fail
    refine (htr _).mono ?_
    rintro e w2 ⟨⟨q,hq,rfl⟩,hb2⟩
    have hg2:=HG1.out.trans (gr_of_below hb2)
    have hL2:=HL.out.keep hg2 (by simp)
    obtain ⟨c2,f2⟩:=hL2.cell
    have hlt2:=hL2.lt
    have HL2:=Lib.hid hL2
    have HG2:=Lib.hid (hg2.but (some b))
    clear htr hL2 hg2 hb2
    cases q with
    | nil =>
      have hcn:c=[]:=by rcases hq with h | ⟨h,h'⟩;exact h.symm;simp at h'
      subst hcn
      have hz0:(((bs ([]:By)).size:Int) == 0)=true:=by rw [bs_size];rfl
      go_wp2_with fail
      go_ret2
      exact ⟨.inr ⟨by simp,rfl,HL2.out.set _⟩,gr_set HG2.out _ _⟩
    | cons x q =>
      have hz0:(((bs (x::q)).size:Int) == 0)=false:=by rw [bs_size];simp only [List.length_cons,beq_eq_false_iff_ne];omega
      obtain ⟨hk,hget⟩:=bs_at (l:=x::q) (pre:=[]) (c:=x) (post:=q) rfl
      have hk0:0 < (bs (x::q)).size:=hk
      have hg0:(bs (x::q))[0]'hk0=x:=hget
      clear hk hget
      have hfw:=fun w=>fwd_any (x::q) 1 w
      generalize hyy:bs (x::q)=y at hk0 hg0 hz0 hfw ⊢
      clear hyy
      rcases Bool.eq_false_or_eq_true ((x.toNat:Int) == 82) with h82 | h82
      · have hx82:x=82:=by apply UInt8.toNat_inj.1;simp at h82 ⊢;omega
        have hcx:c=x::q:=by
          rcases hq with h | ⟨_,h⟩
          · exact h.symm
          · simp at h;rw [h.1] at hx82;exact absurd hx82 (by decide)
        have Hcx:=Lib.hid hcx
        have Hx82:=Lib.hid hx82
        clear hq hcx hx82
        go_wp2_with fail
        refine (hfw _).mono ?_
        rintro e w3 ⟨rfl,hw3⟩
        subst w3
        go_wp2_with fail
        refine (newref_any i v _).mono ?_
        rintro e w3 ⟨rfl,hw3⟩
        subst w3
        have hlt3:b < (w2.setCell ⟨b,0,none⟩ (.string (bs q))).heap.size:=by simpa using hlt2
        have hLq:=HL2.out.set q
        have hgq:=gr_set HG2.out 0 (.string (bs q))
        obtain ⟨W,hW⟩:∃ W,W=w2.setCell ⟨b,0,none⟩ (.string (bs q)):=⟨_,rfl⟩
        rw [←hW] at hlt3 hLq hgq ⊢
        have a0:=heap_alloc_new W (.cells #[.int .i64 i,.int .i64 v] 73 (0,0))
        have d0:(W.alloc (.cells #[.int .i64 i,.int .i64 v] 73 (0,0))).cell? ⟨W.heap.size,0,none⟩=some (.int .i64 i):=by simp only [World.cell?,a0];rfl
        have d1:(W.alloc (.cells #[.int .i64 i,.int .i64 v] 73 (0,0))).cell? ⟨W.heap.size,1,none⟩=some (.int .i64 v):=by simp only [World.cell?,a0];rfl
        have HLq:=Lib.hid hLq
        have HGq:=Lib.hid hgq
        clear hW hLq hgq a0 c2 f2
        go_wp2_with fail
        go_ret2
        exact ⟨.inl ⟨by rw [Hcx.out,Hx82.out];rfl,rfl,by rw [Hcx.out];exact HLq.out.keep (gr_alloc (World.grownBy.refl _ none) _) (by simp)⟩,gr_alloc HGq.out _⟩
      · have hx82:c.head?≠some 82:=by
          intro e
          rcases hq with h | ⟨h,_⟩
          · rw [←h] at e;simp at e;rw [e] at h82;exact absurd h82 (by decide)
          · rw [h] at e;simp at e
        clear hq
        go_wp2_with fail
        go_ret2
        exact ⟨.inr ⟨hx82,rfl,HL2.out.set _⟩,gr_set HG2.out _ _⟩
  · rw [HS.out] at hv;exact absurd rfl (hv g)
end Go.Proofs.YtfkecmlmnhbmoaaGreatDoor
namespace Go.Proofs.YtfkecmlmnhbmoaaGreatDoor
open Go Go.RowKit
structure InitQ (W0:World) (a b:Addr) (ca cb:Array Value):Prop extends InitP W0 where
  ab:ErrAB W0 a b ca cb
set_option maxRecDepth 100000 in
set_option maxHeartbeats 40000000 in
theorem real105_any (pf:By→Nat) (W0 w:World) (ea eb:Addr) (ca cb:Array Value) (hI:InitQ W0 ea eb ca cb) (hpf:PFC pf W0) (hE:Env W0 w) (b:Nat) (l:By) (hL:LineAt w b l) (hl:l.length≤1000000) (ho:wordO l false=false) (hne:wordT l≠[]) (hn0:(numF pf (wordT l)).2.2.2=0) (hn3:(numF pf (wordT l)).1=3) (hW0:W0.heap.size≤b) :
    Calls Tryz.prog 105 #[.pointer (some ⟨b,0,none⟩)] w fun e w'=>e=.returned (.tuple #[.iface 68 (.float .f64 (pf (wordT l))),.nilIface])∧LineAt w' b (wordR l)∧w.grownBy w' (some b):=by
  obtain ⟨hat,hok,_⟩:=num_isreal hn0 hn3
  have hwl:(wordT l).length≤l.length:=(List.takeWhile_sublist _).length_le
  have hch:∀ c∈wordT l,(c.toNat:Int)≠44:=by
    intro c hc e
    have h1:=num_chars (l:=wordT l) (by rw [hn0];decide)
    cases hw:wordT l with
    | nil=>rw [hw] at hc;simp at hc
    | cons d t =>
      rw [hw] at hc h1
      simp only [numStrip] at h1
      split at h1
      · rename_i hd
        rcases List.mem_cons.1 hc with rfl | hc
        · simp at hd;omega
        · have:=h1 c hc;simp [isDig] at this;omega
      · have:=h1 c hc;simp [isDig] at this;omega
  have hst:=fun w=>start_any pf l ho hne (by rw [hn0];decide) hl w
  obtain ⟨c0,f0⟩:=hL.cell
  have hnob:∃ c t,l=c::t:=by cases l with | nil=>simp [wordT] at hne | cons c t=>exact ⟨c,t,rfl⟩
  have hnb:Calls Tryz.prog 67 #[.pointer (some ⟨b,0,none⟩)] w fun e w'=>e=.returned (.bool false)∧∃ n,w'=w.drewN n:=by
    obtain ⟨c,t,rfl⟩:=hnob
    exact nobuf_any w b c t hL
  obtain ⟨te,pe,hsc⟩:=hI.init.syntaxErr
  have HL:=Lib.hid hL
  have HI:=Lib.hid hI
  have HE:=Lib.hid hE
  have Hpf:=Lib.hid hpf
  have Hat:=Lib.hid hat
  have Hok:=Lib.hid hok
  have Hch:=Lib.hid hch
  obtain ⟨W,hW⟩:∃ W,W=wordT l:=⟨_,rfl⟩
  obtain ⟨R,hR⟩:∃ R,R=wordR l:=⟨_,rfl⟩
  rw [←hW,←hR] at hst
  rw [←hW] at Hat Hok Hch hwl
  rw [←hW,←hR]
  clear hL hI hE hpf hat hok hch hn0 hn3 ho hne hW hR hnob hsc
  go_enter Tryz.func105,Tryz.ntmps105
  go_wp2_with fail
  refine hnb.mono ?_
  rintro e w1 ⟨rfl,n1,hw1⟩
  subst w1
  go_wp2_with fail
  refine (hst _).mono ?_
  rintro e w2 ⟨rfl,hb2⟩
  have hg2:w.grownBy w2 none:=gr_of_below (w:=w) ⟨hb2.os,hb2.tape,hb2.output,hb2.size,hb2.block⟩
  generalize (if R=[] then -1 else (W.length:Int))=k1
  clear hst hnb hb2
  have HG2:=Lib.hid hg2
  clear hg2
  go_wp2_with fail
  have hE2:=HE.out.grown0 HG2.out
  have hab2:=HI.out.ab.env hE2
  refine (Tryz.strconv_Atoi_syntax (bs W) (by rw [bs_size];omega) (by rw [bs_list];exact Hat.out) _ w2 hab2.syn (.inr ⟨_,_,rfl⟩)).mono ?_
  rintro e w3 ⟨N,rfl,hN,hNc,hb3⟩
  have hg3:=HG2.out.trans (gr_of_below hb3)
  have hab3:=HI.out.ab.env (HE.out.grown0 hg3)
  have HG3:=Lib.hid hg3
  clear hb3 hg3 hab2 hE2
  go_wp2_with fail
  refine (rangeErr_any w3 N _ _ ea eb ca cb hab3 hNc).mono ?_
  rintro e w4 ⟨rfl,n4,hw4⟩
  have hg4:=gr_drewN HG3.out n4
  rw [←hw4] at hg4
  have hL4:=HL.out.keep hg4 (by simp)
  obtain ⟨c4,f4⟩:=hL4.cell
  have HL4:=Lib.hid hL4
  have HG4:=Lib.hid hg4
  clear hw4 hg4 hL4 hab3 hNc HG3
  go_wp2_with fail
  have hLR:=HL4.out.set R
  have hGR:=gr_set (HG4.out.but (some b)) 0 (.string (bs R))
  obtain ⟨W5,hW5⟩:∃ W5,W5=w4.setCell ⟨b,0,none⟩ (.string (bs R)):=⟨_,rfl⟩
  rw [←hW5] at hLR hGR ⊢
  refine (pfl_any pf W0 Hpf.out W Hok.out Hch.out (by omega) W5 (HE.out.grown hGR (fun k hk=>by injection hk with hk;omega))).mono ?_
  rintro e w6 ⟨rfl,hg6⟩
  have HL6:=Lib.hid (hLR.keep hg6 (by simp))
  have HG6:=Lib.hid (gr_same hGR (hg6.but (some b)))
  clear hLR hGR hg6 hW5
  go_wp2_with fail
  go_ret2
  exact ⟨rfl,HL6.out,HG6.out⟩
end Go.Proofs.YtfkecmlmnhbmoaaGreatDoor
namespace Go.Proofs.YtfkecmlmnhbmoaaGreatDoor
mutual
def lvV:PV→Nat
  | .arr kids=>lvVs kids + 1
  | .dict _ kids=>lvVs kids + 1
  | _=>1
def lvVs:List PV→Nat
  | []=>0
  | x::xs=>max (lvV x) (lvVs xs)
end
mutual
def szV:PV→Nat
  | .arr kids=>szVs kids + 1
  | .dict _ kids=>szVs kids + 1
  | _=>1
def szVs:List PV→Nat
  | []=>0
  | x::xs=>szV x + szVs xs
end
theorem lvVs_app (l:List PV) (x:PV):lvVs (l ++ [x])=max (lvVs l) (lvV x):=by
  induction l with
  | nil=>simp [lvVs]
  | cons y l ih=>simp only [List.cons_append,lvVs,ih];omega
theorem szVs_app (l:List PV) (x:PV):szVs (l ++ [x])=szVs l + szV x:=by
  induction l with
  | nil=>simp [szVs]
  | cons y l ih=>simp only [List.cons_append,szVs,ih];omega
theorem lvVs_take {l:List PV} {i:Nat} {p:PV} (h:l[i]?=some p):lvVs (l.take (i + 1))=max (lvVs (l.take i)) (lvV p):=by
  rw [List.take_add_one,h];exact lvVs_app _ _
theorem szVs_take {l:List PV} {i:Nat} {p:PV} (h:l[i]?=some p):szVs (l.take (i + 1))=szVs (l.take i) + szV p:=by
  rw [List.take_add_one,h];exact szVs_app _ _
theorem lvV_mem {l:List PV} {p:PV} (h:p∈l):lvV p≤lvVs l:=by
  induction l with
  | nil=>simp at h
  | cons y l ih =>
    simp only [lvVs]
    rcases List.mem_cons.1 h with rfl | h
    · omega
    · have:=ih h;omega
theorem lvVs_le {l:List PV} {n:Nat} (h:∀ p∈l,lvV p≤n):lvVs l≤n:=by
  induction l with
  | nil=>simp [lvVs]
  | cons y l ih =>
    simp only [lvVs]
    have h1:=h y (by simp)
    have h2:=ih (fun p hp=>h p (by simp [hp]))
    omega
theorem lvV_pos (x:PV):1≤lvV x:=by cases x<;>simp [lvV]
theorem refF_lv {pf:By→Nat} {n:Int} {t l:By} {o:Bool} {x:PV} {r:By} {o':Bool} (h:refF pf n t l o=some (x,r,o')):lvV x=1:=by
  simp only [refF] at h
  split at h
  · simp at h;obtain ⟨rfl,_⟩:=h;rfl
  · split at h
    · simp at h;obtain ⟨rfl,_⟩:=h;rfl
    · split at h
      · simp at h
      · simp at h;obtain ⟨rfl,_⟩:=h;rfl
theorem rdNum_lv {pf:By→Nat} {l:By} {o:Bool} {x:PV} {r:By} {o':Bool} (h:rdNum pf l o=some (x,r,o')):lvV x=1:=by
  simp only [rdNum] at h
  split at h
  · simp at h;obtain ⟨rfl,_⟩:=h;rfl
  · split at h
    · simp at h;obtain ⟨rfl,_⟩:=h;rfl
    · split at h
      · simp at h;obtain ⟨rfl,_⟩:=h;rfl
      · split at h
        · simp at h
        · split at h
          · simp at h;obtain ⟨rfl,_⟩:=h;rfl
          · exact refF_lv h
theorem rdArr_lv {f:By→Bool→Rd PV} {n:Nat} (hf:∀ l o x r o',f l o=some (x,r,o')→lvV x≤n):∀ (m:Nat) (l:By) (o:Bool) (acc kids:List PV) (r:By) (o':Bool),(∀ p∈acc,lvV p≤n)→rdArr f m l o acc=some (kids,r,o')→∀ p∈kids,lvV p≤n:=by
  intro m
  induction m with
  | zero=>intro l o acc kids r o' _ h;simp [rdArr] at h
  | succ m ih =>
    intro l o acc kids r o' ha h
    simp only [rdArr] at h
    split at h
    · simp at h;obtain ⟨rfl,_⟩:=h;exact ha
    · split at h
      · simp at h
      · rename_i x l2 o2 e
        refine ih _ _ _ _ _ _ (fun p hp=>?_) h
        rcases List.mem_append.1 hp with hp | hp
        · exact ha p hp
        · simp at hp;subst hp;exact hf _ _ _ _ _ e
theorem rdDict_lv {f:By→Bool→Rd PV} {n:Nat} (hf:∀ l o x r o',f l o=some (x,r,o')→lvV x≤n):∀ (m:Nat) (l:By) (o:Bool) (ks:List By) (acc:List PV) (res:List By × List PV) (r:By) (o':Bool),(∀ p∈acc,lvV p≤n)→rdDict f m l o ks acc=some (res,r,o')→∀ p∈res.2,lvV p≤n:=by
  intro m
  induction m with
  | zero=>intro l o ks acc res r o' _ h;simp [rdDict] at h
  | succ m ih =>
    intro l o ks acc res r o' ha h
    simp only [rdDict] at h
    split at h
    · simp at h;obtain ⟨rfl,_⟩:=h;exact ha
    · split at h
      · split at h
        · simp at h
        · split at h
          · simp at h
          · split at h
            · simp at h
            · rename_i x l2 o2 e
              refine ih _ _ _ _ _ _ _ (fun p hp=>?_) h
              rcases List.mem_append.1 hp with hp | hp
              · exact ha p hp
              · simp at hp;subst hp;exact hf _ _ _ _ _ e
      · simp at h
theorem rdV_lv (pf:By→Nat):∀ (n:Nat) (l:By) (o:Bool) (x:PV) (r:By) (o':Bool),rdV pf n l o=some (x,r,o')→lvV x≤n:=by
  intro n
  induction n with
  | zero=>intro l o x r o' h;simp [rdV] at h
  | succ n ih =>
    intro l o x r o' h
    simp only [rdV] at h
    split at h
    · simp at h
    · split at h
      · rw [Option.map_eq_some_iff] at h
        obtain ⟨_,_,h⟩:=h
        simp at h;obtain ⟨rfl,_⟩:=h;simp [lvV]
      · split at h
        · rw [Option.map_eq_some_iff] at h
          obtain ⟨q,hq,h⟩:=h
          simp at h;obtain ⟨rfl,_⟩:=h
          obtain ⟨q1,q2,q3⟩:=q
          have:=lvVs_le (rdDict_lv ih _ _ _ _ _ _ _ _ (by simp) hq)
          simp only [lvV];omega
        · split at h
          · split at h
            · simp at h;obtain ⟨rfl,_⟩:=h;simp [lvV]
            · simp at h
          · split at h
            · rw [Option.map_eq_some_iff] at h
              obtain ⟨_,_,h⟩:=h
              simp at h;obtain ⟨rfl,_⟩:=h;simp [lvV]
            · split at h
              · rw [Option.map_eq_some_iff] at h
                obtain ⟨q,hq,h⟩:=h
                simp at h;obtain ⟨rfl,_⟩:=h
                obtain ⟨q1,q2,q3⟩:=q
                have:=lvVs_le (rdArr_lv ih _ _ _ _ _ _ _ (by simp) hq)
                simp only [lvV];omega
              · split at h
                · simp at h
                · have:=rdNum_lv h;omega
end Go.Proofs.YtfkecmlmnhbmoaaGreatDoor
