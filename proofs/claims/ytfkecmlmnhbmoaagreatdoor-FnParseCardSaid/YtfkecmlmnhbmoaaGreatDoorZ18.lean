/- FnParse: the texts G1 G2 G3 P14 G4 P15 of the workbench, laid together. -/
import Derived.Test.YtfkecmlmnhbmoaaGreatDoorProg
import Derived.WalkKit
import Derived.WalkLawsBesides
import Derived.WalkSpells
import Derived.BigQuiet
import Derived.BigRegion
import Derived.Deep.QuietTactic
import Derived.Deep.RegionHeld3
import Derived.Deep.LoopGhost
import Derived.StillTailTactics
import Derived.Lib.Hide
import Derived.Laws.EntriesVeiled
import Derived.Lib.OthersKept
import Derived.Test.YtfkecmlmnhbmoaaGreatDoorZ12
import Derived.Test.YtfkecmlmnhbmoaaGreatDoorZ17
set_option linter.unusedVariables false
set_option linter.unusedSimpArgs false
namespace Go.Proofs.YtfkecmlmnhbmoaaGreatDoor
open Go Go.RowKit
def spaceZ (n:Int):Bool:=n == 9 || n == 10 || n == 11 || n == 12 || n == 13 || n == 32 || n == 133 || n == 160 || n == 5760 || n == 8232 || n == 8233 || n == 8239 || n == 8287 || n == 12288 || (decide (8192≤n) && decide (n≤8202))
theorem space_any (n:Int) (w:World):Calls Tryz.prog 95 #[.int .i32 n] w fun e w'=>e=.returned (.bool (spaceZ n))∧w'=w:=by
  by_cases h1:8192≤n
  all_goals
    go_enter Tryz.func95,Tryz.ntmps95
    go_wp2
    all_goals (go_ret;exact ⟨by simp_all [spaceZ]<;>omega,rfl⟩)
theorem space_eq {n:Int} {v:Bool} (h:spaceZ n=v) (w:World):Calls Tryz.prog 95 #[.int .i32 n] w fun e w'=>e=.returned (.bool v)∧w'=w:=h ▸ space_any n w
def wsZ (n:Nat):Bool:=spaceZ n || n == 0
theorem ws_any (n:Nat) (w:World):Calls Tryz.prog 94 #[.int .i32 n] w fun e w'=>e=.returned (.bool (wsZ n))∧w'=w:=by
  cases h1:spaceZ n<;>rcases Bool.eq_false_or_eq_true ((n:Int) == 0) with h2 | h2
  all_goals
    go_enter Tryz.func94,Tryz.ntmps94
    go_wp2_with (go_at_call 95;refine (space_eq h1 _).mono ?_;rintro e w' ⟨rfl,rfl⟩)
    go_ret
    refine ⟨?_,rfl⟩
    have:wsZ n=(spaceZ n || ((n:Int) == 0)):=by unfold wsZ;congr 1;rw [Bool.eq_iff_iff];simp
    rw [this,h1,h2];rfl
theorem err_any (w:World):Calls Tryz.prog 71 #[.agg #[]] w fun e w'=>e=.returned .nilIface∧w.grownBy w' none:=by
  go_enter Tryz.func71,Tryz.ntmps71
  go_wp2
  go_ret
  exact ⟨rfl,gr_alloc (World.grownBy.refl _ _) _⟩
def LineAt (w:World) (b:Nat) (l:By):Prop:=w.heap[b]?=some (.cells #[.string (bs l)] 9 (0,0))
theorem LineAt.cell {w:World} {b:Nat} {l:By} (h:LineAt w b l):w.cell? ⟨b,0,none⟩=some (.string (bs l))∧w.frozen? ⟨b,0,none⟩=false:=by
  unfold LineAt at h
  simp [World.cell?,World.frozen?,h]
theorem LineAt.lt {w:World} {b:Nat} {l:By} (h:LineAt w b l):b < w.heap.size:=(Array.getElem?_eq_some_iff.1 h).1
theorem LineAt.keep {w w':World} {b:Nat} {l:By} (h:LineAt w b l) {r:Option Nat} (hg:w.grownBy w' r) (hr:some b≠r):LineAt w' b l:=(hg.block b h.lt hr).trans h
theorem LineAt.set {w:World} {b:Nat} {l:By} (h:LineAt w b l) (l':By):LineAt (w.setCell ⟨b,0,none⟩ (.string (bs l'))) b l':=by
  unfold LineAt at h ⊢
  simp [World.setCell,Array.getElem?_modify,h]
theorem nobuf_any (w:World) (b:Nat) (c:UInt8) (l:By) (h:LineAt w b (c::l)):Calls Tryz.prog 67 #[.pointer (some ⟨b,0,none⟩)] w fun e w'=>e=.returned (.bool false)∧∃ n,w'=w.drewN n:=by
  obtain ⟨h0,hf⟩:=h.cell
  have hs:((bs (c::l)).size:Int)=0↔False:=by rw [bs_size];simp;omega
  have hz:(((bs (c::l)).size:Int) == 0)=false:=by simpa using hs
  clear h
  go_enter Tryz.func67,Tryz.ntmps67
  go_wp2_with fail
  go_ret
  exact ⟨rfl,0,rfl⟩
theorem fwd_any (l:By) (k:Nat) (w:World):Calls Tryz.prog 104 #[.string (bs l),.int .i64 k] w fun e w'=>e=.returned (.string (bs (l.drop k)))∧w'=w:=by
  by_cases hk:k < l.length
  · have h1:k < (bs l).size:=by rw [bs_size];exact hk
    go_enter Tryz.func104,Tryz.ntmps104
    go_wp2
    go_ret
    refine ⟨?_,rfl⟩
    rw [bs_size,bs_drop];rfl
  · have h1:¬k < (bs l).size:=by rw [bs_size];exact hk
    go_enter Tryz.func104,Tryz.ntmps104
    go_wp2
    go_ret
    refine ⟨?_,rfl⟩
    rw [List.drop_eq_nil_of_le (by omega)];rfl
def delZ (n:Int):Bool:=n == 60 || n == 62 || n == 91 || n == 93 || n == 40 || n == 41 || n == 47
theorem del_any (n:Int) (w:World):Calls Tryz.prog 140 #[.int .u8 n] w fun e w'=>e=.returned (.bool (delZ n))∧w'=w:=by
  obtain ⟨d,hd⟩:∃ d:ByteArray,d=⟨#[60,62,91,93,40,41,47]⟩:=⟨_,rfl⟩
  have hsz:d.size=7:=by rw [hd];rfl
  go_enter Tryz.func140,Tryz.ntmps140
  go_wp2_with fail
  go_loopg [4] 7 (fun g t4 wr=>∃ i:Nat,g + i=7∧t4=.int .i64 i∧wr=w∧delZ n=(([60,62,91,93,40,41,47]:List Int).drop i).any fun c=>n == c)
  case atStart=>exact ⟨0,rfl,rfl,rfl,by simp [delZ,Bool.or_assoc]⟩
  case round =>
    obtain ⟨i,hi,rfl,rfl,hx⟩:=hrel
    by_cases h7:i < 7
    · have:i=0∨i=1∨i=2∨i=3∨i=4∨i=5∨i=6:=by omega
      rcases this with rfl | rfl | rfl | rfl | rfl | rfl | rfl
      · simp only [List.drop_succ_cons,List.drop_zero,List.any_cons,List.any_nil] at hx
        rcases Bool.eq_false_or_eq_true (n == 60) with ht | ht
        · rw [ht] at hx
          replace ht:(n == ((((⟨#[60,62,91,93,40,41,47]⟩:ByteArray)[0]'(by decide)).toNat:Nat):Int))=true:=ht
          go_wp2
          go_ret
          exact ⟨by rw [hx];rfl,rfl⟩
        · rw [ht] at hx
          replace ht:(n == ((((⟨#[60,62,91,93,40,41,47]⟩:ByteArray)[0]'(by decide)).toNat:Nat):Int))=false:=ht
          go_wp2
          go_roundg 6
          case measure=>omega
          case rel=>exact ⟨1,by omega,rfl,rfl,by rw [hx];rfl⟩
      · simp only [List.drop_succ_cons,List.drop_zero,List.any_cons,List.any_nil] at hx
        rcases Bool.eq_false_or_eq_true (n == 62) with ht | ht
        · rw [ht] at hx
          replace ht:(n == ((((⟨#[60,62,91,93,40,41,47]⟩:ByteArray)[1]'(by decide)).toNat:Nat):Int))=true:=ht
          go_wp2
          go_ret
          exact ⟨by rw [hx];rfl,rfl⟩
        · rw [ht] at hx
          replace ht:(n == ((((⟨#[60,62,91,93,40,41,47]⟩:ByteArray)[1]'(by decide)).toNat:Nat):Int))=false:=ht
          go_wp2
          go_roundg 5
          case measure=>omega
          case rel=>exact ⟨2,by omega,rfl,rfl,by rw [hx];rfl⟩
      · simp only [List.drop_succ_cons,List.drop_zero,List.any_cons,List.any_nil] at hx
        rcases Bool.eq_false_or_eq_true (n == 91) with ht | ht
        · rw [ht] at hx
          replace ht:(n == ((((⟨#[60,62,91,93,40,41,47]⟩:ByteArray)[2]'(by decide)).toNat:Nat):Int))=true:=ht
          go_wp2
          go_ret
          exact ⟨by rw [hx];rfl,rfl⟩
        · rw [ht] at hx
          replace ht:(n == ((((⟨#[60,62,91,93,40,41,47]⟩:ByteArray)[2]'(by decide)).toNat:Nat):Int))=false:=ht
          go_wp2
          go_roundg 4
          case measure=>omega
          case rel=>exact ⟨3,by omega,rfl,rfl,by rw [hx];rfl⟩
      · simp only [List.drop_succ_cons,List.drop_zero,List.any_cons,List.any_nil] at hx
        rcases Bool.eq_false_or_eq_true (n == 93) with ht | ht
        · rw [ht] at hx
          replace ht:(n == ((((⟨#[60,62,91,93,40,41,47]⟩:ByteArray)[3]'(by decide)).toNat:Nat):Int))=true:=ht
          go_wp2
          go_ret
          exact ⟨by rw [hx];rfl,rfl⟩
        · rw [ht] at hx
          replace ht:(n == ((((⟨#[60,62,91,93,40,41,47]⟩:ByteArray)[3]'(by decide)).toNat:Nat):Int))=false:=ht
          go_wp2
          go_roundg 3
          case measure=>omega
          case rel=>exact ⟨4,by omega,rfl,rfl,by rw [hx];rfl⟩
      · simp only [List.drop_succ_cons,List.drop_zero,List.any_cons,List.any_nil] at hx
        rcases Bool.eq_false_or_eq_true (n == 40) with ht | ht
        · rw [ht] at hx
          replace ht:(n == ((((⟨#[60,62,91,93,40,41,47]⟩:ByteArray)[4]'(by decide)).toNat:Nat):Int))=true:=ht
          go_wp2
          go_ret
          exact ⟨by rw [hx];rfl,rfl⟩
        · rw [ht] at hx
          replace ht:(n == ((((⟨#[60,62,91,93,40,41,47]⟩:ByteArray)[4]'(by decide)).toNat:Nat):Int))=false:=ht
          go_wp2
          go_roundg 2
          case measure=>omega
          case rel=>exact ⟨5,by omega,rfl,rfl,by rw [hx];rfl⟩
      · simp only [List.drop_succ_cons,List.drop_zero,List.any_cons,List.any_nil] at hx
        rcases Bool.eq_false_or_eq_true (n == 41) with ht | ht
        · rw [ht] at hx
          replace ht:(n == ((((⟨#[60,62,91,93,40,41,47]⟩:ByteArray)[5]'(by decide)).toNat:Nat):Int))=true:=ht
          go_wp2
          go_ret
          exact ⟨by rw [hx];rfl,rfl⟩
        · rw [ht] at hx
          replace ht:(n == ((((⟨#[60,62,91,93,40,41,47]⟩:ByteArray)[5]'(by decide)).toNat:Nat):Int))=false:=ht
          go_wp2
          go_roundg 1
          case measure=>omega
          case rel=>exact ⟨6,by omega,rfl,rfl,by rw [hx];rfl⟩
      · simp only [List.drop_succ_cons,List.drop_zero,List.any_cons,List.any_nil] at hx
        rcases Bool.eq_false_or_eq_true (n == 47) with ht | ht
        · rw [ht] at hx
          replace ht:(n == ((((⟨#[60,62,91,93,40,41,47]⟩:ByteArray)[6]'(by decide)).toNat:Nat):Int))=true:=ht
          go_wp2
          go_ret
          exact ⟨by rw [hx];rfl,rfl⟩
        · rw [ht] at hx
          replace ht:(n == ((((⟨#[60,62,91,93,40,41,47]⟩:ByteArray)[6]'(by decide)).toNat:Nat):Int))=false:=ht
          go_wp2
          go_roundg 0
          case measure=>omega
          case rel=>exact ⟨7,by omega,rfl,rfl,by rw [hx];rfl⟩
    · obtain rfl:i=7:=by omega
      go_wp2
      go_ret
      exact ⟨by rw [hx];rfl,rfl⟩
def limV:Value:=.agg #[.int .i64 536870912,.int .i64 536870912,.int .i64 104857600,.int .i64 536870912,.int .i64 10000000,.int .i64 1000000,.int .i64 16777216,.int .i64 10000000,.int .i64 100]
set_option maxRecDepth 100000 in
set_option maxHeartbeats 40000000 in
theorem limits_any (w:World):Calls Tryz.prog 79 #[] w fun e w'=>e=.returned limV∧w.grownBy w' none:=by
  go_enter Tryz.func79,Tryz.ntmps79
  go_wp2
  refine bodyPost_ret (v:=limV) (by simp [results,Tryz.results79,go_sem,limV,Tryz.sizeOf122]) rfl ⟨rfl,gr_alloc (World.grownBy.refl _ _) _⟩
set_option maxRecDepth 100000 in
set_option maxHeartbeats 40000000 in
theorem depth_any (w:World):Calls Tryz.prog 68 #[.slice none 0 0] w fun e w'=>e=.returned (.int .i64 100)∧w.grownBy w' none:=by
  go_enter Tryz.func68,Tryz.ntmps68
  go_wp2_with fail
  refine (limits_any _).mono ?_
  rintro e w1 ⟨rfl,hg⟩
  have hf:∀ w,(Instr.field 122 limV 8).run Tryz.prog w=.ok (.int .i64 100) w:=fun w=>by kernel_rfl
  unfold limV at *
  go_wp2_with fail
  go_ret
  exact ⟨rfl,hg⟩
theorem check_any (name:ByteArray) (k:Int) (hk:k≤100) (w:World):Calls Tryz.prog 80 #[.string name,.int .i64 k,.int .i64 100] w fun e w'=>e=.returned .nilIface∧w'=w:=by
  go_enter Tryz.func80,Tryz.ntmps80
  go_wp2
  go_ret
  exact ⟨rfl,rfl⟩
end Go.Proofs.YtfkecmlmnhbmoaaGreatDoor
namespace Go.Proofs.YtfkecmlmnhbmoaaGreatDoor
open Go Go.RowKit
def eolP (r:Nat):Bool:=r == 10 || r == 13
set_option maxRecDepth 100000 in
set_option maxHeartbeats 40000000 in
theorem eol_any (s:ByteArray) (w:World):Calls Tryz.prog 98 #[.string s] w fun e w'=>(∃ v,e=.returned (.tuple #[.string (if Lib.idxFunc eolP true s=-1 then ⟨#[]⟩ else s.extract (Lib.idxFunc eolP true s).toNat s.size),v]))∧Below w.heap.size w w':=by
  obtain ⟨cs,hcs⟩:∃ cs:By,cs=[10,13]:=⟨_,rfl⟩
  have hbs:(⟨#[10,13]⟩:ByteArray)=bs cs:=by rw [hcs];rfl
  obtain ⟨X,hX⟩:∃ X,Lib.idxFunc eolP true s=X:=⟨_,rfl⟩
  rw [hX]
  obtain ⟨res,hres⟩:∃ res:ByteArray,res=if X=-1 then ⟨#[]⟩ else s.extract X.toNat s.size:=⟨_,rfl⟩
  rw [←hres]
  have Hres:=Lib.hid hres
  clear hres
  have HX:=Lib.hid hX
  have Hcs:=Lib.hid hcs
  clear hX hcs
  go_enter Tryz.func98,Tryz.ntmps98
  go_wp2_with fail
  rw [hbs]
  go_loopg [] s.size (fun gf wx=>∃ pos:Nat,wx.heap[w.heap.size]?=some (.stringIter s pos)∧Below w.heap.size w wx∧Lib.idxFuncFrom eolP true s gf pos=X∧s.size≤pos + gf)
  case atStart=>exact ⟨0,World.iter_heap w s 0,(Below.refl _ w).alloc (Nat.le_refl _) _,HX.out,by omega⟩
  case round =>
    obtain ⟨pos,hit,hbw,hleft,hfu⟩:=hrel
    by_cases hps:pos < s.size
    · obtain ⟨g', rfl⟩ : ∃ g', gk = g' + 1 := ⟨gk - 1, by omega⟩
      have hnx:∀ ty,(Instr.next (.pointer (some ⟨w.heap.size,0,none⟩)) true ty).run Tryz.prog wr=_:=fun ty=>Lib.run_next_any_at wr w.heap.size s pos ty hit hps
      have hwd:=Lib.width_pos s pos
      obtain ⟨R,hR⟩:∃ R,(Utf8.decode s pos).1=R:=⟨_,rfl⟩
      obtain ⟨K,hK⟩:∃ K,(Utf8.decode s pos).2=K:=⟨_,rfl⟩
      simp only [Lib.idxFuncFrom,hps,if_true,hR,hK] at hleft
      rw [hR,hK] at hnx
      rw [hK] at hwd
      have hit2:=Lib.iterAt_heap wr w.heap.size s pos (pos + K) hit
      have hbw2:=Lib.below_iterAt hbw (k:=w.heap.size) (Nat.le_refl _) s (pos + K)
      obtain ⟨W,hWd⟩:∃ W,wr.iterAt w.heap.size s (pos + K)=W:=⟨_,rfl⟩
      rw [hWd] at hnx hit2 hbw2
      have hltW:w.heap.size < W.heap.size:=(Array.getElem?_eq_some_iff.1 hit2).1
      go_wp2_with fail
      go_loopg [] cs.length (fun g2 wi=>∃ pre rest:By,cs=pre ++ rest∧rest.length≤g2∧wi.heap[W.heap.size]?=some (.stringIter (bs cs) pre.length)∧(pre.any fun c=>R == c.toNat)=false∧wi.heap[w.heap.size]?=some (.stringIter s (pos + K))∧Below w.heap.size w wi)
      case atStart=>exact ⟨[],cs,rfl,Nat.le_refl _,World.iter_heap W _ 0,rfl,by rw [←hit2];exact Below.heap_alloc _ _ _ hltW,hbw2.alloc hbw2.size _⟩
      case round =>
        obtain ⟨pre,rest,hsp,hgl,hi2,hpre,hi1,hbi⟩:=hrel
        cases rest with
        | nil =>
          have hn2:∀ ty,(Instr.next (.pointer (some ⟨W.heap.size,0,none⟩)) true ty).run Tryz.prog wr=_:=fun ty=>Lib.run_next_end_at wr W.heap.size (bs cs) pre.length ty hi2 (by rw [bs_size,hsp];simp)
          have hne:eolP R=false:=by
            rw [List.append_nil] at hsp
            rw [←hsp,Hcs.out] at hpre
            simp only [List.any_cons,List.any_nil,Bool.or_false] at hpre
            exact hpre
          rw [hne] at hleft
          simp only [Bool.false_eq_true,if_false] at hleft
          have HL:=Lib.hid hleft
          clear hleft hsp
          go_wp2_with fail
          go_roundg g'
          case measure=>omega
          case rel=>exact ⟨pos + K,hi1,hbi,HL.out,by omega⟩
        | cons c rest =>
          have hcc : c = 10 ∨ c = 13 := by have : c ∈ cs := by rw [hsp]; simp
                                           rw [Hcs.out] at this;simpa using this
          have hc1:(c.toNat:Int) < 128:=by rcases hcc with rfl | rfl<;>decide
          have hlt2:pre.length < (bs cs).size:=by rw [bs_size,hsp];simp
          have hn2:∀ ty,(Instr.next (.pointer (some ⟨W.heap.size,0,none⟩)) true ty).run Tryz.prog wr=_:=fun ty=>Lib.run_next_any_at wr W.heap.size (bs cs) pre.length ty hi2 hlt2
          have hdec:Utf8.decode (bs cs) pre.length=(c.toNat,1):=by rw [hsp];exact bs_decode pre c rest hc1
          rw [hdec] at hn2
          simp only at hn2
          have hi3:=Lib.iterAt_heap wr W.heap.size (bs cs) pre.length (pre.length + 1) hi2
          have hi4:=Lib.iterAt_other wr W.heap.size w.heap.size (bs cs) (pre.length + 1) (by omega)
          have hbi3:=Lib.below_iterAt hbi (k:=W.heap.size) hbw2.size (bs cs) (pre.length + 1)
          rw [hi1] at hi4
          obtain ⟨W3,hW3⟩:∃ W3,wr.iterAt W.heap.size (bs cs) (pre.length + 1)=W3:=⟨_,rfl⟩
          rw [hW3] at hn2 hi3 hi4 hbi3
          have Hsp:=Lib.hid hsp
          have HL:=Lib.hid hleft
          have Hpre:=Lib.hid hpre
          clear hsp hleft hpre hdec hi2 hi1
          by_cases he:R=c.toNat
          · have he2:((R:Int) == (c.toNat:Int))=true:=by rw [he];simp
            have hX:(pos:Int)=X:=by
              have:=HL.out
              rw [if_pos (by rw [he];rcases hcc with rfl | rfl<;>rfl)] at this
              exact this
            have hX2:¬X=-1:=by omega
            have hX3:X.toNat=pos:=by omega
            have hps2:pos≤s.size:=by omega
            have hr:=Hres.out
            rw [if_neg hX2,hX3] at hr
            clear he hX hX2 hX3
            subst hr
            go_wp2_with fail
            go_ret2
            exact ⟨⟨_,rfl⟩,hbi3⟩
          · have he2:((R:Int) == (c.toNat:Int))=false:=by simp only [beq_eq_false_iff_ne];omega
            go_wp2_with fail
            go_roundg rest.length
            case measure=>simp at hgl;omega
            case rel=>exact ⟨pre ++ [c],rest,by rw [Hsp.out];simp,Nat.le_refl _,by simpa using hi3,by rw [List.any_append,Hpre.out];simpa using he,hi4,hbi3⟩
    · have hnx:∀ ty,(Instr.next (.pointer (some ⟨w.heap.size,0,none⟩)) true ty).run Tryz.prog wr=_:=fun ty=>Lib.run_next_end_at wr w.heap.size s pos ty hit hps
      rw [Lib.idxFuncFrom_end _ _ _ _ _ hps] at hleft
      have hr:=Hres.out
      rw [if_pos hleft.symm] at hr
      subst hr
      have HL:=Lib.hid hleft
      clear hleft
      go_wp2_with fail
      go_ret2
      exact ⟨⟨_,rfl⟩,hbw⟩
end Go.Proofs.YtfkecmlmnhbmoaaGreatDoor
namespace Go.Proofs.YtfkecmlmnhbmoaaGreatDoor
open Go Go.RowKit
def stopZ (cs:By) (r:Nat):Bool:=(cs.any fun c=>r == c.toNat) || (spaceZ r || r == 0)
set_option maxRecDepth 100000 in
set_option maxHeartbeats 40000000 in
theorem pos_any (s:ByteArray) (cs:By) (hcs0:cs≠[]) (hcsa:∀ c∈cs,(c.toNat:Int) < 128) (w:World) :
    Calls Tryz.prog 131 #[.string s,.string (bs cs)] w fun e w'=>(∃ v,e=.returned (.tuple #[.int .i64 (Lib.idxFunc (stopZ cs) true s),v]))∧Below w.heap.size w w':=by
  obtain ⟨X,hX⟩:∃ X,Lib.idxFunc (stopZ cs) true s=X:=⟨_,rfl⟩
  rw [hX]
  have HX:=Lib.hid hX
  have hl0:(((bs cs).size:Int) == 0)=false:=by
    have:0 < cs.length:=List.length_pos_iff.2 hcs0
    rw [bs_size];simp;omega
  obtain ⟨z,hz⟩:∃ z,z=bs cs:=⟨_,rfl⟩
  rw [←hz] at hl0 ⊢
  have Hz:=Lib.hid hz
  have Hcs0:=Lib.hid hcs0
  have Hcsa:=Lib.hid hcsa
  clear hX hz hcs0 hcsa
  go_enter Tryz.func131,Tryz.ntmps131
  go_wp2_with fail
  go_loopg [] s.size (fun gf wx=>∃ pos:Nat,wx.heap[w.heap.size]?=some (.stringIter s pos)∧Below w.heap.size w wx∧Lib.idxFuncFrom (stopZ cs) true s gf pos=X∧s.size≤pos + gf)
  case atStart=>exact ⟨0,World.iter_heap w s 0,(Below.refl _ w).alloc (Nat.le_refl _) _,HX.out,by omega⟩
  case round =>
    obtain ⟨pos,hit,hbw,hleft,hfu⟩:=hrel
    by_cases hps:pos < s.size
    · obtain ⟨g',rfl⟩:∃ g',gk=g' + 1:=⟨gk - 1,by omega⟩
      have hnx:∀ ty,(Instr.next (.pointer (some ⟨w.heap.size,0,none⟩)) true ty).run Tryz.prog wr=_:=fun ty=>Lib.run_next_any_at wr w.heap.size s pos ty hit hps
      have hwd:=Lib.width_pos s pos
      obtain ⟨R,hR⟩:∃ R,(Utf8.decode s pos).1=R:=⟨_,rfl⟩
      obtain ⟨K,hK⟩:∃ K,(Utf8.decode s pos).2=K:=⟨_,rfl⟩
      simp only [Lib.idxFuncFrom,hps,if_true,hR,hK] at hleft
      rw [hR,hK] at hnx
      rw [hK] at hwd
      have hit2:=Lib.iterAt_heap wr w.heap.size s pos (pos + K) hit
      have hbw2:=Lib.below_iterAt hbw (k:=w.heap.size) (Nat.le_refl _) s (pos + K)
      obtain ⟨W,hWd⟩:∃ W,wr.iterAt w.heap.size s (pos + K)=W:=⟨_,rfl⟩
      rw [hWd] at hnx hit2 hbw2
      have hltW:w.heap.size < W.heap.size:=(Array.getElem?_eq_some_iff.1 hit2).1
      go_wp2_with fail
      go_loopg [] cs.length (fun g2 wi=>∃ pre rest:By,cs=pre ++ rest∧rest.length≤g2∧wi.heap[W.heap.size]?=some (.stringIter z pre.length)∧(pre.any fun c=>R == c.toNat)=false∧(pre≠[]→(spaceZ R || R == 0)=false)∧wi.heap[w.heap.size]?=some (.stringIter s (pos + K))∧Below w.heap.size w wi)
      case atStart=>exact ⟨[],cs,rfl,Nat.le_refl _,World.iter_heap W _ 0,rfl,fun h=>absurd rfl h,by rw [←hit2];exact Below.heap_alloc _ _ _ hltW,hbw2.alloc hbw2.size _⟩
      case round =>
        obtain ⟨pre,rest,hsp,hgl,hi2,hpre,hps0,hi1,hbi⟩:=hrel
        cases rest with
        | nil =>
          have hn2:∀ ty,(Instr.next (.pointer (some ⟨W.heap.size,0,none⟩)) true ty).run Tryz.prog wr=_:=fun ty=>Lib.run_next_end_at wr W.heap.size z pre.length ty hi2 (by rw [Hz.out,bs_size,hsp];simp)
          have hne:stopZ cs R=false:=by
            rw [List.append_nil] at hsp
            rw [←hsp] at hpre hps0
            unfold stopZ
            rw [hpre,hps0 Hcs0.out];rfl
          rw [hne] at hleft
          simp only [Bool.false_eq_true,if_false] at hleft
          have HL:=Lib.hid hleft
          clear hleft hsp
          go_wp2_with fail
          go_roundg g'
          case measure=>omega
          case rel=>exact ⟨pos + K,hi1,hbi,HL.out,by omega⟩
        | cons c rest =>
          have hc1:(c.toNat:Int) < 128:=Hcsa.out c (by rw [hsp];simp)
          have hlt2:pre.length < z.size:=by rw [Hz.out,bs_size,hsp];simp
          have hn2:∀ ty,(Instr.next (.pointer (some ⟨W.heap.size,0,none⟩)) true ty).run Tryz.prog wr=_:=fun ty=>Lib.run_next_any_at wr W.heap.size z pre.length ty hi2 hlt2
          have hdec:Utf8.decode z pre.length=(c.toNat,1):=by rw [Hz.out,hsp];exact bs_decode pre c rest hc1
          rw [hdec] at hn2
          simp only at hn2
          have hi3:=Lib.iterAt_heap wr W.heap.size z pre.length (pre.length + 1) hi2
          have hi4:=Lib.iterAt_other wr W.heap.size w.heap.size z (pre.length + 1) (by omega)
          have hbi3:=Lib.below_iterAt hbi (k:=W.heap.size) hbw2.size z (pre.length + 1)
          rw [hi1] at hi4
          obtain ⟨W3,hW3⟩:∃ W3,wr.iterAt W.heap.size z (pre.length + 1)=W3:=⟨_,rfl⟩
          rw [hW3] at hn2 hi3 hi4 hbi3
          have hst:(R=c.toNat∨spaceZ R=true∨R=0)→stopZ cs R=true:=by
            intro h
            unfold stopZ
            rw [hsp]
            rcases h with h | h | h
            · simp [h]
            · simp [h]
            · simp [h]
          have Hsp:=Lib.hid hsp
          have HL:=Lib.hid hleft
          have Hpre:=Lib.hid hpre
          have Hst:=Lib.hid hst
          clear hsp hleft hpre hdec hi2 hi1 hst hps0
          have hps2:pos≤s.size:=by omega
          have hX:(R=c.toNat∨spaceZ R=true∨R=0)→(pos:Int)=X:=by
            intro h
            have:=HL.out
            rw [if_pos (Hst.out h)] at this
            exact this
          have HXX:=Lib.hid hX
          clear hX
          rcases Bool.eq_false_or_eq_true ((R:Int) == (c.toNat:Int)) with he | he
          · have hx:=HXX.out (.inl (by simp at he;omega))
            subst hx
            go_wp2_with fail
            go_quiet ((first|(go_at_call 42;with_reducible first|exact qaw _|exact qbw _)|(go_at_call 43;with_reducible first|exact qap _|exact qbp _)|(go_at_call 52;with_reducible first|exact qad _|exact qbd _)|(go_at_call 76;with_reducible first|exact qar _|exact qbr _)|(go_at_call 75;with_reducible first|exact qag _|exact qbg _)));go_wp2_with fail
            go_ret2
            exact ⟨⟨_,rfl⟩,below_drewN' hbi3 _⟩
          · cases hsz:spaceZ R
            · rcases Bool.eq_false_or_eq_true ((R:Int) == 0) with h0 | h0
              · have hx:=HXX.out (.inr (.inr (by simp at h0;omega)))
                subst hx
                go_wp2_with fail
                refine (space_eq hsz _).mono ?_
                rintro e w' ⟨rfl,hw'⟩
                subst w'
                go_wp2_with fail
                go_quiet ((first|(go_at_call 42;with_reducible first|exact qaw _|exact qbw _)|(go_at_call 43;with_reducible first|exact qap _|exact qbp _)|(go_at_call 52;with_reducible first|exact qad _|exact qbd _)|(go_at_call 76;with_reducible first|exact qar _|exact qbr _)|(go_at_call 75;with_reducible first|exact qag _|exact qbg _)));go_wp2_with fail
                go_ret2
                exact ⟨⟨_,rfl⟩,below_drewN' hbi3 _⟩
              · go_wp2_with fail
                refine (space_eq hsz _).mono ?_
                rintro e w' ⟨rfl,hw'⟩
                subst w'
                go_wp2_with fail
                go_roundg rest.length
                case measure=>simp at hgl;omega
                case rel=>exact ⟨pre ++ [c],rest,by rw [Hsp.out];simp,Nat.le_refl _,by simpa using hi3,by rw [List.any_append,Hpre.out];simp at he ⊢;omega,fun _=>by rw [hsz];simp at h0 ⊢;omega,hi4,hbi3⟩
            · have hx:=HXX.out (.inr (.inl hsz))
              subst hx
              go_wp2_with fail
              refine (space_eq hsz _).mono ?_
              rintro e w' ⟨rfl,hw'⟩
              subst w'
              go_wp2_with fail
              go_quiet ((first|(go_at_call 42;with_reducible first|exact qaw _|exact qbw _)|(go_at_call 43;with_reducible first|exact qap _|exact qbp _)|(go_at_call 52;with_reducible first|exact qad _|exact qbd _)|(go_at_call 76;with_reducible first|exact qar _|exact qbr _)|(go_at_call 75;with_reducible first|exact qag _|exact qbg _)));go_wp2_with fail
              go_ret2
              exact ⟨⟨_,rfl⟩,below_drewN' hbi3 _⟩
    · have hnx:∀ ty,(Instr.next (.pointer (some ⟨w.heap.size,0,none⟩)) true ty).run Tryz.prog wr=_:=fun ty=>Lib.run_next_end_at wr w.heap.size s pos ty hit hps
      rw [Lib.idxFuncFrom_end _ _ _ _ _ hps] at hleft
      subst hleft
      go_wp2_with fail
      go_ret2
      exact ⟨⟨_,rfl⟩,hbw⟩
end Go.Proofs.YtfkecmlmnhbmoaaGreatDoor
namespace Go.Proofs.YtfkecmlmnhbmoaaGreatDoor
theorem idx_not (p:Nat→Bool) (s:ByteArray):∀ (f pos:Nat),Lib.idxFuncFrom p true s f pos=Lib.idxFuncFrom (fun r=>!p r) false s f pos:=by
  intro f
  induction f with
  | zero=>intro pos;rfl
  | succ f ih =>
    intro pos
    simp only [Lib.idxFuncFrom,ih]
    split
    · congr 1
      simp
    · rfl
theorem idx_true (p:Nat→Bool) (a b:By) (ha:∀ c∈a,(c.toNat:Int) < 128∧p c.toNat=false) (hb:∀ c∈b.head?,(c.toNat:Int) < 128∧p c.toNat=true):Lib.idxFunc p true (bs (a ++ b))=if b=[] then -1 else (a.length:Int):=by
  unfold Lib.idxFunc
  rw [idx_not]
  have hq:∀ c∈a,(!p c.toNat)=true:=fun c hc=>by rw [(ha c hc).2];rfl
  have h1:(a ++ b).takeWhile (fun c=>!p c.toNat)=a:=by
    rw [List.takeWhile_append_of_pos hq]
    cases b with
    | nil=>simp
    | cons c b=>simp [(hb c (by simp)).2]
  have h2:(a ++ b).dropWhile (fun c=>!p c.toNat)=b:=by
    rw [List.dropWhile_append_of_pos hq]
    cases b with
    | nil=>simp
    | cons c b=>simp [(hb c (by simp)).2]
  have:=idx_ascii (fun r=>!p r) (fun c=>!p c.toNat) (a ++ b) [] (bs (a ++ b)).size (by rw [bs_size];exact Nat.le_refl _) (by rw [h1];exact fun c hc=>⟨(ha c hc).1,hq c hc⟩) (by rw [h2];exact fun c hc=>⟨(hb c hc).1,by simp [(hb c hc).2]⟩)
  rw [h1,h2] at this
  simpa using this
theorem idx_behind (p:Nat→Bool):∀ (a pre b:By) (f:Nat),a.length≤f→(∀ c∈a,(c.toNat:Int) < 128∧p c.toNat=false) →
    Lib.idxFuncFrom p true (bs (pre ++ (a ++ b))) f pre.length=Lib.idxFuncFrom p true (bs (pre ++ (a ++ b))) (f - a.length) (pre.length + a.length):=by
  intro a
  induction a with
  | nil=>intro pre b f _ _;simp
  | cons c a ih =>
    intro pre b f hf ha
    obtain ⟨f,rfl⟩:∃ f',f=f' + 1:=⟨f - 1,by simp at hf;omega⟩
    have hc:=ha c (by simp)
    have hlt:pre.length < (bs (pre ++ (c::a ++ b))).size:=by rw [bs_size];simp
    conv=>lhs;unfold Lib.idxFuncFrom
    rw [if_pos hlt,List.cons_append,bs_decode pre c (a ++ b) hc.1,if_neg (by simp [hc.2])]
    have:=ih (pre ++ [c]) b f (by simp at hf;omega) (fun d hd=>ha d (by simp [hd]))
    simp only [List.append_assoc,List.singleton_append,List.length_append,List.length_singleton] at this
    rw [this]
    congr 1
    · simp
    · simp;omega
theorem idx_ge (p:Nat→Bool) (a b:By) (ha:∀ c∈a,(c.toNat:Int) < 128∧p c.toNat=false):Lib.idxFunc p true (bs (a ++ b))=-1∨((a.length:Int)≤Lib.idxFunc p true (bs (a ++ b))∧Lib.idxFunc p true (bs (a ++ b)) < ((a ++ b).length:Nat)):=by
  have h:=idx_behind p a [] b (bs (a ++ b)).size (by rw [bs_size];simp) ha
  simp only [List.nil_append,List.length_nil,Nat.zero_add] at h
  unfold Lib.idxFunc
  rw [h]
  have:=Lib.idxFuncFrom_range p true (bs (a ++ b)) ((bs (a ++ b)).size - a.length) a.length
  rw [bs_size] at this ⊢
  exact this
theorem white_range {n:Int} (h:isWhite n=true):n=0∨n=9∨n=10∨n=12∨n=13∨n=32:=by
  unfold isWhite at h
  simp at h
  omega
theorem plain_range {n:Int} (h:isPlain n=true):32≤n∧n≤126:=by
  unfold isPlain at h
  simp at h
  omega
theorem takeWhile_all {q:UInt8→Bool} {l:By} : ∀ c∈l.takeWhile q,q c=true:=by
  induction l with
  | nil=>intro c hc;simp at hc
  | cons e l ih =>
    intro c hc
    rw [List.takeWhile_cons] at hc
    split at hc
    · rename_i he
      rcases List.mem_cons.1 hc with rfl | hc
      · exact he
      · exact ih c hc
    · simp at hc
theorem dropWhile_head {q:UInt8→Bool} {l:By} : ∀ c∈(l.dropWhile q).head?,q c=false:=by
  intro c hc
  have:=List.head?_dropWhile_not (p:=q) l
  rw [Option.mem_def] at hc
  rw [hc] at this
  simpa using this
theorem trim_step {l r:By} (h:passM false l false=(r,false)) (hr:∀ c∈r.head?,isPlain (c.toNat:Int)=true):∃ d,d=(l.dropWhile fun c=>isWhite (c.toNat:Int))∧(∀ c∈d.head?,isPlain (c.toNat:Int)=true∧isWhite (c.toNat:Int)=false)∧d.length≤l.length ∧
    ((d=r)∨(r=[]∧d=[37])∨∃ c2 d' cm rest,d=37::c2::d'∧c2::d'=cm ++ rest∧(∀ c∈cm,isPlain (c.toNat:Int)=true)∧(∀ c∈rest.head?,(c.toNat:Int)=10∨(c.toNat:Int)=13)∧passM false rest false=(r,false)):=by
  rw [passM_white] at h
  have hw:=dropWhile_head (q:=fun c=>isWhite (c.toNat:Int)) (l:=l)
  have hl:(l.dropWhile fun c=>isWhite (c.toNat:Int)).length≤l.length:=(List.dropWhile_sublist _).length_le
  generalize hd:(l.dropWhile fun c=>isWhite (c.toNat:Int))=d at h hw hl
  refine ⟨d,rfl,?_,hl,?_⟩
  · intro c hc
    refine ⟨?_,hw c hc⟩
    cases d with
    | nil=>simp at hc
    | cons e d =>
      simp at hc;subst hc
      have hwe:=hw e (by simp)
      by_cases h37:(e.toNat:Int)=37
      · rw [h37];decide
      · simp only [passM,hwe,Bool.false_eq_true,if_false,beq_iff_eq,h37] at h
        simp at h
        exact hr e (by rw [←h];simp)
  · cases d with
    | nil=>left;simp [passM] at h;exact h.symm
    | cons e d =>
      have hwe:=hw e (by simp)
      by_cases h37:(e.toNat:Int)=37
      · have he:e=37:=by apply UInt8.toNat_inj.1;simp;omega
        subst he
        cases d with
        | nil=>right;left;simp [passM,isWhite] at h;exact ⟨h,rfl⟩
        | cons c2 d =>
          right;right
          have h2:passM true (c2::d) false=(r,false):=by
            rw [←h]
            conv=>rhs;unfold passM
            rfl
          obtain ⟨cm,rest,e1,e2,e3⟩:=passM_cmt _ _ h2
          refine ⟨c2,d,cm,rest,rfl,e1,e2,?_,?_⟩
          · rcases e3 with ⟨rfl,_⟩ | ⟨e,l2,rfl,he,_⟩
            · simp
            · intro c hc;simp at hc;subst hc;exact he
          · rcases e3 with ⟨rfl,rfl⟩ | ⟨e,l2,rfl,he,e4⟩
            · rfl
            · have hwe:isWhite (e.toNat:Int)=true:=by rcases he with he | he<;>rw [he]<;>rfl
              simp only [passM,hwe,if_true]
              exact e4
      · left
        simp only [passM,hwe,Bool.false_eq_true,if_false,beq_iff_eq,h37] at h
        simpa using h
theorem bs_get (l:By) (i:Nat) (h:i < (bs l).size):(bs l)[i]'h=l[i]'(by rwa [bs_size] at h):=by
  simp [bs,ByteArray.getElem_eq_getElem_data]
theorem bs_at {l pre post:By} {c:UInt8} (h:l=pre ++ c::post):∃ hk:pre.length < (bs l).size,(bs l)[pre.length]'hk=c:=by
  subst h
  refine ⟨by rw [bs_size];simp,?_⟩
  rw [bs_get];simp
end Go.Proofs.YtfkecmlmnhbmoaaGreatDoor
namespace Go.Proofs.YtfkecmlmnhbmoaaGreatDoor
open Go Go.RowKit
theorem ws_pred (w:World):PredAt Tryz.prog 94 #[] encR wsZ w:=fun W x _=>(ws_any x W).mono fun _ _ h=>⟨h.1,0,by rw [h.2];rfl⟩
theorem ws_enters (args:Array Value) (w:World):(callFunc 94 args).run Tryz.prog w=.ok (.enter 94 args) w:=by
  simp [go_sem]
theorem ws_white {c:UInt8} (h:isWhite (c.toNat:Int)=true):(c.toNat:Int) < 128∧wsZ c.toNat=true:=by
  have:=white_range h
  refine ⟨by omega,?_⟩
  unfold wsZ spaceZ
  simp only [Bool.or_eq_true,beq_iff_eq,decide_eq_true_eq,Bool.and_eq_true]
  omega
theorem ws_plain {c:UInt8} (h:isPlain (c.toNat:Int)=true) (hw:isWhite (c.toNat:Int)=false):(c.toNat:Int) < 128∧wsZ c.toNat=false:=by
  have:=plain_range h
  have h32:(c.toNat:Int)≠32:=by intro e;rw [e] at hw;exact absurd hw (by decide)
  refine ⟨by omega,?_⟩
  unfold wsZ spaceZ
  simp only [Bool.or_eq_false_iff,beq_eq_false_iff_ne,Bool.and_eq_false_iff,decide_eq_false_iff_not]
  omega
theorem eol_cmt {c:UInt8} (h:isPlain (c.toNat:Int)=true):(c.toNat:Int) < 128∧eolP c.toNat=false:=by
  have:=plain_range h
  refine ⟨by omega,?_⟩
  unfold eolP
  simp only [Bool.or_eq_false_iff,beq_eq_false_iff_ne]
  omega
theorem eol_end {c:UInt8} (h:(c.toNat:Int)=10∨(c.toNat:Int)=13):(c.toNat:Int) < 128∧eolP c.toNat=true:=by
  refine ⟨by omega,?_⟩
  unfold eolP
  simp only [Bool.or_eq_true,beq_iff_eq]
  omega
def TrimPost (r:By) (w w':World) (e:Ending):Prop:=(∃ q,(q=r∨r=[]∧q=[37])∧e=.returned (.tuple #[.string (bs q),.bool false]))∧Below w.heap.size w w'
set_option maxRecDepth 100000 in
set_option maxHeartbeats 40000000 in
theorem trim_any2 (l r:By) (w:World) (h:passM false l false=(r,false)) (hr:∀ c∈r.head?,isPlain (c.toNat:Int)=true) :
    Calls Tryz.prog 81 #[.string (bs l),.bool false] w fun e w'=>TrimPost r w w' e:=by
  have Hr:=Lib.hid hr
  have Hh:=Lib.hid h
  clear h hr
  go_enter Tryz.func81,Tryz.ntmps81
  go_wp2_with fail
  go_loopg [0,8] l.length (fun g t0 t8 wr=>∃ l',l'.length≤g∧t0=.string (bs l')∧t8=.bool false∧passM false l' false=(r,false)∧Below w.heap.size w wr)
  case atStart=>exact ⟨l,Nat.le_refl _,rfl,rfl,Hh.out,Below.refl _ _⟩
  case round =>
    obtain ⟨l',hg,rfl,rfl,hp,hb⟩:=hrel
    obtain ⟨d,hd,hdh,hdl,hcase⟩:=trim_step hp Hr.out
    have htl:Lib.trimLeftF wsZ (bs l')=bs d:=by
      rw [hd]
      exact trimLeft_ascii wsZ (fun c=>isWhite (c.toNat:Int)) l' (fun c hc=>ws_white (takeWhile_all c hc)) (fun c hc=>ws_plain (hdh c (by rw [hd];exact hc)).1 (hdh c (by rw [hd];exact hc)).2)
    have HT:=Lib.hid htl
    have Hd:=Lib.hid hd
    have Hcase:=Lib.hid hcase
    have Hdh:=Lib.hid hdh
    have Hp:=Lib.hid hp
    clear htl hd hcase hdh hp
    go_wp2_with fail
    refine (Tryz.strings_TrimLeftFunc 94 #[] ws_enters wsZ (bs l') _ (ws_pred _)).mono ?_
    rintro e w1 ⟨rfl,hb1⟩
    rw [HT.out]
    have hb2:=hb.trans (hb1.mono hb.size)
    rcases Hcase.out with h1 | h1 | ⟨c2,d',cm,rest,h1,h2,h3,h4,h5⟩
    · have hph:=passM_head l' false false
      rw [Hp.out] at hph
      subst h1
      cases d with
      | nil =>
        have hz:(bs ([]:By)).size≤1:=by rw [bs_size];simp
        go_wp2_with fail
        go_ret2
        exact ⟨⟨_,.inl rfl,rfl⟩,hb2⟩
      | cons c d =>
        cases d with
        | nil =>
          have hz:(bs [c]).size≤1:=by rw [bs_size];simp
          go_wp2_with fail
          go_ret2
          exact ⟨⟨_,.inl rfl,rfl⟩,hb2⟩
        | cons c2 d =>
          have hz:¬(bs (c::c2::d)).size≤1:=by rw [bs_size];simp
          have h37:((c.toNat:Int) != 37)=true:=by simpa using (hph c (by simp)).2
          obtain ⟨hk,hget⟩:=bs_at (l:=c::c2::d) (pre:=[]) (c:=c) (post:=c2::d) rfl
          have hk0:0 < (bs (c::c2::d)).size:=hk
          have hg0:(bs (c::c2::d))[0]'hk0=c:=hget
          clear hk hget
          go_wp2_with fail
          go_ret2
          exact ⟨⟨_,.inl rfl,rfl⟩,hb2⟩
    · obtain ⟨h1,rfl⟩:=h1
      have hz:(bs [37]).size≤1:=by rw [bs_size];simp
      go_wp2_with fail
      go_ret2
      exact ⟨⟨_,.inr ⟨rfl,rfl⟩,rfl⟩,hb2⟩
    · subst h1
      have hz:¬(bs (37::c2::d')).size≤1:=by rw [bs_size];simp
      obtain ⟨hk,hget⟩:=bs_at (l:=37::c2::d') (pre:=[]) (c:=37) (post:=c2::d') rfl
      have hk0:0 < (bs (37::c2::d')).size:=hk
      have hg0:(bs (37::c2::d'))[0]'hk0=37:=hget
      have hidx:Lib.idxFunc eolP true (bs (37::c2::d'))=if rest=[] then -1 else ((37::cm).length:Int):=by
        rw [h2]
        exact idx_true eolP (37::cm) rest (fun c hc=>by
          rcases List.mem_cons.1 hc with rfl | hc
          · exact ⟨by decide,by decide⟩
          · exact eol_cmt (h3 c hc)) (fun c hc=>eol_end (h4 c hc))
      have hres:(if Lib.idxFunc eolP true (bs (37::c2::d'))=-1 then ⟨#[]⟩ else (bs (37::c2::d')).extract (Lib.idxFunc eolP true (bs (37::c2::d'))).toNat (bs (37::c2::d')).size)=bs rest:=by
        rw [hidx]
        by_cases hr0:rest=[]
        · rw [if_pos hr0,hr0];rfl
        · rw [if_neg hr0,if_neg (by omega),Int.toNat_natCast,bs_size,bs_drop,h2]
          simp
      have hrl:rest.length≤d'.length + 1:=by have:=congrArg List.length h2;simp at this;omega
      have Hres:=Lib.hid hres
      have H5:=Lib.hid h5
      clear hres hidx h2 h3 h4 h5 hk hget
      go_wp2_with fail
      refine (eol_any (bs (37::c2::d')) _).mono ?_
      rintro e w3 ⟨⟨v,rfl⟩,hb3⟩
      rw [Hres.out]
      have hb4:=hb2.trans (hb3.mono hb2.size)
      go_wp2_with fail
      go_roundg (d'.length + 1)
      case measure=>simp at hdl;omega
      case rel=>exact ⟨rest,hrl,rfl,rfl,H5.out,hb4⟩
end Go.Proofs.YtfkecmlmnhbmoaaGreatDoor
namespace Go.Proofs.YtfkecmlmnhbmoaaGreatDoor
theorem passM_fix {l la:By} {o:Bool} (h:passM false l o=(la,false)):passM false la false=(la,false):=by
  have hh:=passM_head l false o
  rw [h] at hh
  cases la with
  | nil=>rfl
  | cons c la =>
    obtain ⟨h1,h2⟩:=hh c (by simp)
    have h37:((c.toNat:Int) == 37)=false:=by simpa using h2
    simp only [passM,h1,h37,Bool.false_eq_true,if_false]
theorem rdV_pass {pf:By→Nat} {n:Nat} {l la:By} (h:passM false l false=(la,false)):rdV pf n la false=rdV pf n l false:=by
  cases n with
  | zero=>rfl
  | succ n=>simp only [rdV,h,passM_fix h]
theorem rdDict_pass {f:By→Bool→Rd PV} {m:Nat} {l la:By} {ks:List By} {acc:List PV} (h:passM false l false=(la,false)):rdDict f m la false ks acc=rdDict f m l false ks acc:=by
  cases m with
  | zero=>rfl
  | succ m=>simp only [rdDict,h,passM_fix h]
theorem rdArr_pass {f:By→Bool→Rd PV} {m:Nat} {l la:By} {acc:List PV} (h:passM false l false=(la,false)):rdArr f m la false acc=rdArr f m l false acc:=by
  cases m with
  | zero=>rfl
  | succ m=>simp only [rdArr,h,passM_fix h]
theorem rdArr_inv {f:By→Bool→Rd PV} (hf:∀ l o x r,f l o=some (x,r,false)→o=false) {m:Nat} {l:By} {acc kids:List PV} {r:By} (h:rdArr f m l false acc=some (kids,r,false)) :
    ∃ m' la,m=m' + 1∧passM false l false=(la,false)∧((∃ t,la=93::t∧kids=acc∧r=t)∨(∃ x l2,headIs la (· == 93)=false∧f la false=some (x,l2,false)∧rdArr f m' l2 false (acc ++ [x])=some (kids,r,false))):=by
  cases m with
  | zero=>simp [rdArr] at h
  | succ m =>
    have hp:=passM_odd l false false
    simp only [rdArr] at h
    generalize passM false l false=a at h hp
    obtain ⟨la,oa⟩:=a
    simp only at h hp
    split at h
    · rename_i hc
      simp at h
      obtain ⟨rfl,rfl,rfl⟩:=h
      cases la with
      | nil=>simp [headIs] at hc
      | cons c la =>
        have:c=93:=by apply UInt8.toNat_inj.1;simp [headIs] at hc ⊢;omega
        subst this
        exact ⟨m,_,rfl,rfl,.inl ⟨la,rfl,rfl,rfl⟩⟩
    · rename_i hc
      split at h
      · simp at h
      · rename_i x l2 o2 e
        have e2:=rdArr_odd hf _ _ _ _ _ _ h
        subst e2
        have e3:=hf _ _ _ _ e
        subst e3
        exact ⟨m,la,rfl,rfl,.inr ⟨x,l2,by simpa using hc,e,h⟩⟩
theorem rdDict_inv {f:By→Bool→Rd PV} (hf:∀ l o x r,f l o=some (x,r,false)→o=false) {m:Nat} {l:By} {ks:List By} {acc:List PV} {res:List By × List PV} {r:By} (h:rdDict f m l false ks acc=some (res,r,false)) :
    ∃ m' la,m=m' + 1∧passM false l false=(la,false)∧((∃ t,la=62::62::t∧res=(ks,acc)∧r=t)∨(∃ l2 k x l3,la=47::l2∧nameB (wordT l2) []=some k∧35∉k∧k∉ks∧wordO l2 false=false∧f (wordR l2) false=some (x,l3,false)∧rdDict f m' l3 false (ks ++ [k]) (acc ++ [x])=some (res,r,false))):=by
  cases m with
  | zero=>simp [rdDict] at h
  | succ m =>
    have hp:=passM_odd l false false
    simp only [rdDict] at h
    generalize passM false l false=a at h hp
    obtain ⟨la,oa⟩:=a
    have hw:=wordO_odd la.tail oa
    simp only at h hp
    split at h
    · rename_i hc
      simp at h
      obtain ⟨rfl,rfl,rfl⟩:=h
      match la,hc with
      | c::d::la,hc =>
        simp [is2] at hc
        have h1:c=62:=by apply UInt8.toNat_inj.1;simp;omega
        have h2:d=62:=by apply UInt8.toNat_inj.1;simp;omega
        subst h1;subst h2
        exact ⟨m,_,rfl,rfl,.inl ⟨la,rfl,rfl,rfl⟩⟩
    · split at h
      · rename_i hc
        split at h
        · simp at h
        · rename_i k hk
          split at h
          · simp at h
          · rename_i hn
            simp only [not_or] at hn
            split at h
            · simp at h
            · rename_i x l2 o2 e
              have e2:=rdDict_odd hf _ _ _ _ _ _ _ h
              subst e2
              have e3:=hf _ _ _ _ e
              have e4:=hw e3
              subst e4
              cases la with
              | nil=>simp [headIs] at hc
              | cons c la =>
                have:c=47:=by apply UInt8.toNat_inj.1;simp [headIs] at hc ⊢;omega
                subst this
                simp only [List.tail_cons] at *
                rw [e3] at e
                exact ⟨m,_,rfl,rfl,.inr ⟨la,k,x,l2,rfl,hk,hn.1,hn.2,e3,e,h⟩⟩
      · simp at h
theorem rdDict_two {f:By→Bool→Rd PV} {m:Nat} {l:By} {ks:List By} {acc:List PV} {res:List By × List PV} {r:By} (hf:∀ l o x r o',f l o=some (x,r,o')→r.length < l.length) (h:rdDict f m l false ks acc=some (res,r,false)) (hf2:∀ l o x r,f l o=some (x,r,false)→o=false):2≤l.length:=by
  obtain ⟨m',la,rfl,hp,h⟩:=rdDict_inv hf2 h
  have h1:=passM_len false l false
  rw [hp] at h1
  rcases h with ⟨t,rfl,_⟩ | ⟨l2,k,x,l3,rfl,_,_,_,_,e,_⟩
  · simp at h1;omega
  · have h2:=hf _ _ _ _ _ e
    have h3:=wordR_len l2
    simp at h1
    omega
theorem nameB_len2:∀ (l out k:By),nameB l out=some k→k.length≤out.length + l.length:=by
  intro l
  induction hn:l.length using Nat.strongRecOn generalizing l with
  | _ N ih =>
    intro out k h
    match l,hn,h with
    | [],_,h=>simp [nameB] at h;subst h;simp
    | c :: l, hn, h =>
      by_cases hc:((c.toNat:Int) != 35)=true
      · rw [nameB_plain hc] at h
        have:=ih l.length (by simp at hn;omega) l rfl _ _ h
        simp at this hn ⊢;omega
      · have hc:((c.toNat:Int) != 35)=false:=by simpa using hc
        match l,hn,h with
        | [],_,h=>rw [nameB_1 hc] at h;simp at h
        | [a],_,h=>rw [nameB_2 hc] at h;simp at h
        | a :: d :: l, hn, h =>
          rw [nameB_3 hc] at h
          split at h
          · simp at h
          · split at h
            · simp at h
            · have:=ih l.length (by simp at hn;omega) l rfl _ _ h
              simp at this hn ⊢;omega
theorem rdV_plain {pf:By→Nat} {n:Nat} {l la:By} {x:PV} {r:By} (hp:passM false l false=(la,false)) (h:rdV pf n l false=some (x,r,false)):la≠[]∧∀ c∈la.head?,isPlain (c.toNat:Int)=true:=by
  cases n with
  | zero=>simp [rdV] at h
  | succ n =>
    obtain ⟨_,c,l1,h1,hw,h37,hc⟩:=rdV_inv h
    rw [hp] at h1
    injection h1 with h1 _
    subst h1
    refine ⟨by simp,fun d hd=>?_⟩
    simp at hd;subst hd
    rcases hc with ⟨h,_⟩ | ⟨h,_⟩ | ⟨h,_⟩ | ⟨h,_⟩ | ⟨h,_⟩ | ⟨hd,h⟩
    · rw [h];decide
    · rw [h];decide
    · rw [h];decide
    · rw [h];decide
    · rw [h];decide
    · have hr:isReg (c.toNat:Int)=true:=by
        unfold isReg
        rw [hw,hd]
        rfl
      exact ((wordO_plain _ (rdNum_odd h).2).1 c (by simp [wordT,hr])).2
theorem Corr.dnull {nn:Nat→Prop} {n:Nat} {pk:List By} {ps:List PO} {ks:List By} {acc:List PV} {k:By} {x:PV} (h:Corr nn (n + 1) (.dict pk ps) (.dict ks acc)) (hk:k∉ks) (hx:x.isNull=true):Corr nn (n + 1) (.dict pk ps) (.dict (ks ++ [k]) (acc ++ [x])):=by
  simp only [Corr] at h ⊢
  obtain ⟨h1,h2,h3,h4,h5⟩:=h
  have hz:(ks ++ [k]).zip (acc ++ [x])=ks.zip acc ++ [(k,x)]:=by rw [List.zip_append h2];rfl
  refine ⟨?_,by simp [h2],h3,?_,?_⟩
  · rw [List.nodup_append]
    exact ⟨h1,by simp,fun a ha c hc e=>by simp at hc;subst hc;subst e;exact hk ha⟩
  · rw [hz,List.filter_append];simp [hx,h4]
  · intro i q p hq hp
    obtain ⟨y,hy,h6⟩:=h5 i q p hq hp
    exact ⟨y,by rw [hz];simp [hy],h6⟩
theorem Corr.dpush {nn:Nat→Prop} {n:Nat} {pk:List By} {ps:List PO} {ks:List By} {acc:List PV} {k:By} {x:PV} {p:PO} (h:Corr nn (n + 1) (.dict pk ps) (.dict ks acc)) (hk:k∉ks) (hx:x.isNull=false) (hp:Corr nn n p x):Corr nn (n + 1) (.dict (pk ++ [k]) (ps ++ [p])) (.dict (ks ++ [k]) (acc ++ [x])):=by
  simp only [Corr] at h ⊢
  obtain ⟨h1,h2,h3,h4,h5⟩:=h
  have hz:(ks ++ [k]).zip (acc ++ [x])=ks.zip acc ++ [(k,x)]:=by rw [List.zip_append h2];rfl
  refine ⟨?_,by simp [h2],by simp [h3],?_,?_⟩
  · rw [List.nodup_append]
    exact ⟨h1,by simp,fun a ha c hc e=>by simp at hc;subst hc;subst e;exact hk ha⟩
  · rw [hz,List.filter_append];simp [hx,h4]
  · intro i q p' hq hp'
    by_cases hi:i < pk.length
    · rw [List.getElem?_append_left hi] at hq
      rw [List.getElem?_append_left (by omega)] at hp'
      obtain ⟨y,hy,h6⟩:=h5 i q p' hq hp'
      exact ⟨y,by rw [hz];simp [hy],h6⟩
    · rw [List.getElem?_append_right (by omega)] at hq
      rw [List.getElem?_append_right (by omega),←h3] at hp'
      cases hj:i - pk.length with
      | succ j=>rw [hj] at hq;simp at hq
      | zero =>
        rw [hj] at hq hp'
        simp at hq hp'
        subst hq;subst hp'
        exact ⟨x,by rw [hz];simp,hx,hp⟩
theorem Corr.dkeys {nn:Nat→Prop} {n:Nat} {pk:List By} {ps:List PO} {ks:List By} {acc:List PV} (h:Corr nn (n + 1) (.dict pk ps) (.dict ks acc)):(∀ k∈pk,k∈ks)∧pk.length≤ks.length:=by
  simp only [Corr] at h
  obtain ⟨_,h2,_,h4,_⟩:=h
  constructor
  · intro k hk
    rw [h4,List.mem_map] at hk
    obtain ⟨e,he,rfl⟩:=hk
    exact (List.of_mem_zip (List.mem_filter.1 he).1).1
  · rw [h4,List.length_map]
    refine Nat.le_trans (List.length_filter_le _ _) ?_
    simp;omega
theorem Corr.dnil {nn:Nat→Prop} {n:Nat} : Corr nn (n + 1) (.dict [] []) (.dict [] []):=by simp [Corr]
theorem Corr.anil {nn:Nat→Prop} {n:Nat} : Corr nn (n + 1) (.arr []) (.arr []):=by simp [Corr]
theorem Corr.apush {nn:Nat→Prop} {n:Nat} {ps:List PO} {acc:List PV} {x:PV} {p:PO} (h:Corr nn (n + 1) (.arr ps) (.arr acc)) (hp:Corr nn n p x):Corr nn (n + 1) (.arr (ps ++ [p])) (.arr (acc ++ [x])):=by
  simp only [Corr] at h ⊢
  obtain ⟨h1,h2⟩:=h
  refine ⟨by simp [h1],fun i q y hq hy=>?_⟩
  by_cases hi:i < ps.length
  · rw [List.getElem?_append_left hi] at hq
    rw [List.getElem?_append_left (by omega)] at hy
    exact h2 i q y hq hy
  · rw [List.getElem?_append_right (by omega)] at hq
    rw [List.getElem?_append_right (by omega),←h1] at hy
    cases hj:i - ps.length with
    | succ j=>rw [hj] at hq;simp at hq
    | zero =>
      rw [hj] at hq hy
      simp at hq hy
      subst hq;subst hy
      exact hp
theorem Corr.isNull {nn:Nat→Prop} {n:Nat} {p:PO} {x:PV} (h:Corr nn n p x):x.isNull=true↔p=.null:=by
  cases n with
  | zero=>simp [Corr] at h
  | succ n=>cases p<;>cases x<;>simp only [Corr] at h<;>first | exact h.elim | simp [PV.isNull]
end Go.Proofs.YtfkecmlmnhbmoaaGreatDoor
