/- FnParse: the texts G7 G8 B2e P16 P17 of the workbench, laid together. -/
import Derived.Test.YtfkecmlmnhbmoaaGreatDoorProg
import Derived.WalkKit
import Derived.WalkLawsBesides
import Derived.WalkSpells
import Derived.BigQuiet
import Derived.BigRegion
import Derived.Deep.QuietTactic
import Derived.Deep.RegionHeld3
import Derived.Deep.LoopGhost
import Derived.StillTailTactics
import Derived.Lib.Hide
import Derived.Laws.EntriesVeiled
import Derived.Lib.ConvBytes
import Derived.Lib.ItoaNum
import Derived.Test.YtfkecmlmnhbmoaaGreatDoorZ13
import Derived.Test.YtfkecmlmnhbmoaaGreatDoorZ18
import Derived.Test.YtfkecmlmnhbmoaaGreatDoorZ21
set_option linter.unusedVariables false
set_option linter.unusedSimpArgs false
namespace Go.Proofs.YtfkecmlmnhbmoaaGreatDoor
open Go Go.RowKit
def idxB (c:UInt8):By→Int
  | []=>-1
  | d::l=>if d=c then 0 else (if idxB c l=-1 then -1 else idxB c l + 1)
theorem idxB_at (c:UInt8):∀ (a b:By),c∉a→idxB c (a ++ c::b)=a.length:=by
  intro a
  induction a with
  | nil=>intro b _;simp [idxB]
  | cons d a ih =>
    intro b h
    simp only [List.mem_cons,not_or] at h
    have:=ih b h.2
    simp only [List.cons_append,idxB,if_neg (Ne.symm h.1),this]
    rw [if_neg (by omega)];simp
theorem idxB_none (c:UInt8):∀ (a:By),c∉a→idxB c a=-1:=by
  intro a
  induction a with
  | nil=>intro _;rfl
  | cons d a ih =>
    intro h
    simp only [List.mem_cons,not_or] at h
    simp only [idxB,if_neg (Ne.symm h.1),ih h.2,if_true]
set_option maxRecDepth 100000 in
set_option maxHeartbeats 40000000 in
theorem index_any (l:By) (c:UInt8) (hl:l.length≤1000000000) (w:World):Calls Tryz.prog 192 #[.string (bs l),.string (bs [c])] w fun e w'=>e=.returned (.int .i64 (idxB c l))∧w'=w:=by
  obtain ⟨X,hX⟩:∃ X,idxB c l=X:=⟨_,rfl⟩
  rw [hX]
  have HX:=Lib.hid hX
  clear hX
  obtain ⟨z,hz⟩:∃ z,z=bs l:=⟨_,rfl⟩
  obtain ⟨y,hy⟩:∃ y,y=bs [c]:=⟨_,rfl⟩
  rw [←hz,←hy]
  have hzs:z.size=l.length:=by rw [hz,bs_size]
  have hys:y.size=1:=by rw [hy,bs_size];rfl
  have Hz:=Lib.hid hz
  have Hy:=Lib.hid hy
  clear hz hy
  go_enter Tryz.func192,Tryz.ntmps192
  go_wp2_with fail
  go_loopg [5] l.length (fun g t5 wr=>∃ (pre rest:By),g=rest.length∧l=pre ++ rest∧t5=.int .i64 pre.length∧wr=w∧X=if idxB c rest=-1 then -1 else pre.length + idxB c rest)
  case atStart=>exact ⟨[],l,rfl,rfl,rfl,rfl,by rw [HX.out];by_cases h:X=-1<;>simp [h]⟩
  case round =>
    obtain ⟨pre,rest,hg,hp,rfl,rfl,hx⟩:=hrel
    have hpl:pre.length + rest.length=l.length:=by rw [hp];simp
    have Hg:=Lib.hid hg
    cases rest with
    | nil =>
      have hx':X=-1:=by simpa [idxB] using hx
      subst hx'
      have hle:¬((pre.length:Int) + 1≤(l.length:Int)):=by simp at hpl;omega
      clear hg hp hx
      go_wp2_with fail
      go_ret
      exact ⟨rfl,rfl⟩
    | cons d rest =>
      have hle:(pre.length:Int) + 1≤(l.length:Int):=by simp at hpl;omega
      have hle2:pre.length + 1≤l.length:=by simp at hpl;omega
      have hcut:z.extract pre.length (pre.length + 1)=bs [d]:=by
        rw [Hz.out,bs_extract,hp]
        congr 1
        rw [show pre ++ d::rest=(pre ++ [d]) ++ rest by simp,List.take_left' (by simp),List.drop_left' rfl]
      have HC:=Lib.hid hcut
      have Hx:=Lib.hid hx
      have Hp:=Lib.hid hp
      clear hg hp hx hcut
      by_cases hd:d=c
      · have heq:((z.extract pre.length (pre.length + 1)).toList == y.toList)=true:=by rw [HC.out,Hy.out,hd];simp
        have hx':X=pre.length:=by have:=Hx.out;simp [idxB,hd] at this;omega
        subst hx'
        go_wp2_with fail
        go_ret
        exact ⟨rfl,rfl⟩
      · have heq:((z.extract pre.length (pre.length + 1)).toList == y.toList)=false:=by
          rw [HC.out,Hy.out,ByteArray.toList_eq,ByteArray.toList_eq,bs_list,bs_list];simpa using hd
        go_wp2_with fail
        go_roundg rest.length
        case measure=>rw [Hg.out];simp
        case rel =>
          refine ⟨pre ++ [d],rest,rfl,by rw [Hp.out];simp,by simp,rfl,?_⟩
          have:=Hx.out
          simp only [idxB,if_neg hd] at this
          rw [this]
          by_cases h1:idxB c rest=-1
          · simp [h1]
          · rw [if_neg h1,if_neg h1,if_neg]
            · simp;omega
            · have:∀ l:By,-1≤idxB c l:=by
                intro l
                induction l with
                | nil=>simp [idxB]
                | cons e l ih => simp only [idxB]; repeat' split
                                 all_goals omega
              have:=this rest
              omega
set_option maxRecDepth 100000 in
set_option maxHeartbeats 40000000 in
theorem irune_any (s:ByteArray) (r:Nat) (hr:r < 128) (w:World):Calls Tryz.prog 233 #[.string s,.int .i32 r] w fun e w'=>e=.returned (.int .i64 (Lib.idxFunc (fun x=>x == r) true s))∧Below w.heap.size w w':=by
  obtain ⟨X,hX⟩:∃ X,Lib.idxFunc (fun x=>x == r) true s=X:=⟨_,rfl⟩
  rw [hX]
  have HX:=Lib.hid hX
  clear hX
  have h0:((r:Int) != 65533)=true:=by simp;omega
  have h1:¬(r:Int) < 0:=by omega
  have h2:¬1114111 < (r:Int):=by omega
  have h3:¬55296≤(r:Int):=by omega
  go_enter Tryz.func233,Tryz.ntmps233
  go_wp2_with fail
  go_loopg [] s.size (fun gf wx=>∃ pos:Nat,wx.heap[w.heap.size]?=some (.stringIter s pos)∧Below w.heap.size w wx∧Lib.idxFuncFrom (fun x=>x == r) true s gf pos=X∧s.size≤pos + gf)
  case atStart=>exact ⟨0,World.iter_heap w s 0,(Below.refl _ w).alloc (Nat.le_refl _) _,HX.out,by omega⟩
  case round =>
    obtain ⟨pos,hit,hbw,hleft,hfu⟩:=hrel
    by_cases hps:pos < s.size
    · obtain ⟨g',rfl⟩:∃ g',gk=g' + 1:=⟨gk - 1,by omega⟩
      have hnx:∀ ty,(Instr.next (.pointer (some ⟨w.heap.size,0,none⟩)) true ty).run Tryz.prog wr=_:=fun ty=>Lib.run_next_any_at wr w.heap.size s pos ty hit hps
      have hwd:=Lib.width_pos s pos
      obtain ⟨R,hR⟩:∃ R,(Utf8.decode s pos).1=R:=⟨_,rfl⟩
      obtain ⟨K,hK⟩:∃ K,(Utf8.decode s pos).2=K:=⟨_,rfl⟩
      simp only [Lib.idxFuncFrom,hps,if_true,hR,hK] at hleft
      rw [hR,hK] at hnx
      rw [hK] at hwd
      have hit2:=Lib.iterAt_heap wr w.heap.size s pos (pos + K) hit
      have hbw2:=Lib.below_iterAt hbw (k:=w.heap.size) (Nat.le_refl _) s (pos + K)
      obtain ⟨W,hWd⟩:∃ W,wr.iterAt w.heap.size s (pos + K)=W:=⟨_,rfl⟩
      rw [hWd] at hnx hit2 hbw2
      by_cases he:R=r
      · have he2:((R:Int) == (r:Int))=true:=by rw [he];simp
        have hx:(pos:Int)=X:=by rw [←hleft,if_pos (by simpa using he)]
        subst hx
        clear hleft
        go_wp2_with fail
        go_ret
        exact ⟨rfl,hbw2⟩
      · have he2:((R:Int) == (r:Int))=false:=by simp only [beq_eq_false_iff_ne];omega
        rw [if_neg (by simpa using he)] at hleft
        have HL:=Lib.hid hleft
        clear hleft
        go_wp2_with fail
        go_roundg g'
        case measure=>omega
        case rel=>exact ⟨pos + K,hit2,hbw2,HL.out,by omega⟩
    · have hnx:∀ ty,(Instr.next (.pointer (some ⟨w.heap.size,0,none⟩)) true ty).run Tryz.prog wr=_:=fun ty=>Lib.run_next_end_at wr w.heap.size s pos ty hit hps
      rw [Lib.idxFuncFrom_end _ _ _ _ _ hps] at hleft
      subst hleft
      go_wp2_with fail
      go_ret
      exact ⟨rfl,hbw⟩
set_option maxRecDepth 100000 in
set_option maxHeartbeats 40000000 in
theorem has_any (cs:By) (hcs:∀ c∈cs,(c.toNat:Int) < 128) (c:UInt8) (hc:(c.toNat:Int) < 128) (b:Bool) (hb:decide (c∈cs)=b) (w:World):Calls Tryz.prog 224 #[.string (bs cs),.int .i32 c.toNat] w fun e w'=>e=.returned (.bool b)∧Below w.heap.size w w':=by
  have hx : decide (0 ≤ Lib.idxFunc (fun x => x == c.toNat) true (bs cs)) = b := by
    rw [←hb]
    by_cases h:c∈cs
    · obtain ⟨a,d,rfl⟩:∃ a d,cs=a ++ c::d:=List.append_of_mem h |>.elim fun a ⟨d,e⟩=>⟨a,d,e⟩
      have hr:=Lib.idxFunc_range (fun x=>x == c.toNat) true (bs (a ++ c::d))
      rcases hr with hr | hr
      · exfalso
        have key:∀ (pre a:By) (f:Nat),a.length < f→(∀ x∈a,(x.toNat:Int) < 128)→Lib.idxFuncFrom (fun x=>x == c.toNat) true (bs (pre ++ (a ++ c::d))) f pre.length≠-1:=by
          intro pre a
          induction a generalizing pre with
          | nil =>
            intro f hf _
            obtain ⟨f,rfl⟩:∃ f',f=f' + 1:=⟨f - 1,by simp at hf;omega⟩
            have hlt:pre.length < (bs (pre ++ ([] ++ c::d))).size:=by rw [bs_size];simp
            unfold Lib.idxFuncFrom
            rw [if_pos hlt,List.nil_append,bs_decode pre c d hc,if_pos (by simp)]
            omega
          | cons x a ih =>
            intro f hf ha
            obtain ⟨f,rfl⟩:∃ f',f=f' + 1:=⟨f - 1,by simp at hf;omega⟩
            have hlt:pre.length < (bs (pre ++ (x::a ++ c::d))).size:=by rw [bs_size];simp
            unfold Lib.idxFuncFrom
            rw [if_pos hlt,List.cons_append,bs_decode pre x (a ++ c::d) (ha x (by simp))]
            split
            · omega
            · have:=ih (pre ++ [x]) f (by simp at hf;omega) (fun y hy=>ha y (by simp [hy]))
              simpa using this
        have:=key [] a (bs (a ++ c::d)).size (by rw [bs_size];simp) (fun x hx=>hcs x (by simp [hx]))
        exact this (by simpa [Lib.idxFunc] using hr)
      · simp [hr.1]
    · have h2:Lib.idxFunc (fun x=>x == c.toNat) true (bs (cs ++ []))=-1:=by
        rw [idx_true _ cs [] (fun x hx=>⟨hcs x hx,by
          simp only [beq_eq_false_iff_ne]
          intro e
          exact h (UInt8.toNat_inj.1 e ▸ hx)⟩) (by simp)]
        simp
      rw [List.append_nil] at h2
      rw [h2]
      simp [h]
  go_enter Tryz.func224,Tryz.ntmps224
  go_wp2_with fail
  refine (irune_any (bs cs) c.toNat (by omega) w).mono ?_
  rintro e w1 ⟨rfl,hb1⟩
  generalize Lib.idxFunc (fun x=>x == c.toNat) true (bs cs)=X at hx ⊢
  cases b
  · have hx2:¬0≤X:=by simpa using hx
    go_wp2_with fail
    go_ret
    exact ⟨rfl,hb1⟩
  · have hx2:0≤X:=by simpa using hx
    go_wp2_with fail
    go_ret
    exact ⟨rfl,hb1⟩
end Go.Proofs.YtfkecmlmnhbmoaaGreatDoor
namespace Go.Proofs.YtfkecmlmnhbmoaaGreatDoor
open Go Go.RowKit
def RowB (w:World) (r:Nat) (cs:By):Prop:=∃ cur N,w.heap[r]?=some (.cells cur 5 (N,N + 1))∧cs.length≤N∧cur.size=N∧∀ (j:Nat) c,cs[j]?=some c→cur[j]?=some (.int .u8 (c.toNat:Int))
theorem RowB.lt {w:World} {r:Nat} {cs:By} (h:RowB w r cs):r < w.heap.size:=by
  obtain ⟨cur,N,h,_⟩:=h
  exact (Array.getElem?_eq_some_iff.1 h).1
theorem RowB.cell {w:World} {r:Nat} {cs:By} (h:RowB w r cs) {j:Nat} {c:UInt8} (hj:cs[j]?=some c):w.cell? ⟨r,j,none⟩=some (.int .u8 (c.toNat:Int))∧w.frozen? ⟨r,j,none⟩=false:=by
  obtain ⟨cur,N,h1,h2,h3,h4⟩:=h
  have:=(List.getElem?_eq_some_iff.1 hj).1
  constructor
  · simp [World.cell?,h1,h4 j c hj]
  · simp [World.frozen?,h1];omega
theorem RowB.set {w:World} {r:Nat} {cs:By} (h:RowB w r cs) (j:Nat) (c:UInt8):RowB (w.setCell ⟨r,j,none⟩ (.int .u8 (c.toNat:Int))) r (cs.set j c):=by
  obtain ⟨cur,N,h1,h2,h3,h4⟩:=h
  refine ⟨cur.setIfInBounds j (.int .u8 (c.toNat:Int)),N,by simp [World.setCell,Array.getElem?_modify,h1],by simpa using h2,by simpa using h3,?_⟩
  intro i d hi
  rw [List.getElem?_set] at hi
  rw [Array.getElem?_setIfInBounds]
  split at hi
  · rename_i e
    subst e
    simp at hi
    rw [if_pos rfl,if_pos (by omega),hi.2]
  · rename_i e
    rw [if_neg e]
    exact h4 i d hi
theorem RowB.fresh (w:World) (l:By):RowB (Lib.bytesWorld w 5 (bs l)) w.heap.size l:=by
  refine ⟨_,_,Lib.bytesWorld_at_new w 5 (bs l),?_,rfl,?_⟩
  · simp [Lib.bytesCells,bs]
  · intro j c hj
    have hlt:=(List.getElem?_eq_some_iff.1 hj).1
    rw [Lib.bytesCells,Array.getElem?_append,if_pos (by simpa [bs] using hlt)]
    simp [bs,hj]
theorem RowB.str {w:World} {r:Nat} {cs:By} (h:RowB w r cs) (cap:Nat):(convert 84 9 (.slice (some ⟨r,0,none⟩) cs.length cap)).run Tryz.prog w=.ok (.string (bs cs)) w:=by
  rw [run_convert_bytes_string w 84 9 5 (some ⟨r,0,Option.none⟩) cs.length cap Tryz.underlying84 Tryz.underlying5 Tryz.underlying9]
  rw [run_bytesToString w ⟨r,0,Option.none⟩ cs.length cap (cs.map fun c=>(c.toNat:Int))]
  · rw [bytes_fold];rfl
  · have:=run_loadCells_list (P:=Tryz.prog) w ⟨r,0,Option.none⟩ (cs.map fun c=>Value.int .u8 (c.toNat:Int)) (by
      intro j u hj
      rw [List.getElem?_map] at hj
      obtain ⟨c,hc,rfl⟩:=Option.map_eq_some_iff.1 hj
      have:=(h.cell hc).1
      have ha:(⟨r,0,Option.none⟩:Addr).add j=⟨r,j,Option.none⟩:=by unfold Addr.add;split<;>simp_all
      rw [ha];exact this)
    simpa [Function.comp_def] using this
theorem set_mid (pre rest:By) (c d:UInt8):(pre ++ c::rest).set pre.length d=(pre ++ [d]) ++ rest:=by simp
theorem upB_lo {c:UInt8} (h:¬97≤(c.toNat:Int)∨¬(c.toNat:Int)≤122):upB c=c:=by
  unfold upB;rw [if_neg (by omega)]
theorem upB_hi {c:UInt8} (h1:97≤(c.toNat:Int)) (h2:(c.toNat:Int)≤122):((upB c).toNat:Int)=(c.toNat:Int) - 97 + 65:=by
  rw [upB_val,if_pos ⟨h1,h2⟩];omega
theorem wrap8 {n:Int} (h0:0≤n) (h1:n≤255):IntKind.u8.wrap n=n:=by
  simp [IntKind.wrap,IntKind.bits,IntKind.signed];omega
def loB (c:UInt8):UInt8:=if 65≤(c.toNat:Int)∧(c.toNat:Int)≤90 then UInt8.ofNat (c.toNat + 32) else c
theorem loB_lo {c:UInt8} (h:¬65≤(c.toNat:Int)∨¬(c.toNat:Int)≤90):loB c=c:=by
  unfold loB;rw [if_neg (by omega)]
theorem loB_hi {c:UInt8} (h1:65≤(c.toNat:Int)) (h2:(c.toNat:Int)≤90):((loB c).toNat:Int)=(c.toNat:Int) - 65 + 97:=by
  unfold loB;rw [if_pos ⟨h1,h2⟩,UInt8.toNat_ofNat'];omega
set_option maxRecDepth 100000 in
set_option maxHeartbeats 40000000 in
theorem upper_any (l:By) (hl:l.length≤1000000000) (w:World):Calls Tryz.prog 223 #[.string (bs l)] w fun e w'=>e=.returned (.string (bs (l.map upB)))∧Below w.heap.size w w':=by
  have hcv:=Lib.run_convert_string_bytes w 9 84 5 (bs l) Tryz.underlying9 Tryz.underlying84 Tryz.underlying5
  have hrow:=RowB.fresh w l
  have hbw:=Lib.bytesWorld_below w 5 (bs l)
  have hBr:w.heap.size≤w.heap.size:=Nat.le_refl _
  obtain ⟨r,hr⟩:∃ r,r=w.heap.size:=⟨_,rfl⟩
  generalize Lib.bytesWorld w 5 (bs l)=W at hcv hrow hbw
  generalize grownCap w (bs l).size 0 5=cap at hcv
  rw [bs_size] at hcv
  rw [←hr] at hcv hrow
  have Hr:=Lib.hid hr
  clear hr hBr
  go_enter Tryz.func223,Tryz.ntmps223
  go_wp2_with fail
  go_loopg [10] l.length (fun g t10 wr=>∃ (pre rest:By),g=rest.length∧l=pre ++ rest∧t10=.int .i64 pre.length∧RowB wr r (pre.map upB ++ rest)∧Below w.heap.size w wr)
  case atStart=>exact ⟨[],l,rfl,rfl,rfl,hrow,hbw⟩
  case round =>
    obtain ⟨pre,rest,hg,hp,rfl,hr,hb⟩:=hrel
    have hpl:pre.length + rest.length=l.length:=by rw [hp];simp
    clear hcv hrow hbw
    cases rest with
    | nil =>
      have hst:=hr.str cap
      rw [List.append_nil,List.length_map] at hst
      rw [List.append_nil] at hp
      rw [←hp] at hst
      have hlt:¬(pre.length:Int) < l.length:=by rw [hp];omega
      clear hp hpl hr hg
      go_wp2_with fail
      go_ret
      exact ⟨rfl,hb⟩
    | cons c rest =>
      have hlt:pre.length < l.length:=by simp at hpl;omega
      have hget:(pre.map upB ++ c::rest)[pre.length]?=some c:=by simp
      obtain ⟨hc,hf⟩:=hr.cell hget
      have hrl:=hr.lt
      have HR:=Lib.hid hr
      have Hp:=Lib.hid hp
      have Hg:=Lib.hid hg
      have hrange:=bi_range c
      clear hr hp hg hget hpl
      by_cases h1:97≤(c.toNat:Int)
      · by_cases h2:(c.toNat:Int)≤122
        · have e1:IntKind.u8.wrap ((c.toNat:Int) - 97)=(c.toNat:Int) - 97:=wrap8 (by omega) (by omega)
          have e2:IntKind.u8.wrap ((c.toNat:Int) - 97 + 65)=(c.toNat:Int) - 97 + 65:=wrap8 (by omega) (by omega)
          go_wp2_with fail
          go_roundg rest.length
          case measure=>rw [Hg.out];simp
          case rel =>
            refine ⟨pre ++ [c],rest,rfl,by rw [Hp.out];simp,by simp,?_,hb.setCell (p:=⟨r,_,none⟩) (by rw [Hr.out];exact Nat.le_refl _) _⟩
            have:=HR.out.set pre.length (upB c)
            rw [upB_hi h1 h2] at this
            have e3:(pre.map upB ++ c::rest).set pre.length (upB c)=(pre ++ [c]).map upB ++ rest:=by
              have:=set_mid (pre.map upB) rest c (upB c)
              rw [List.length_map] at this
              rw [this];simp
            rwa [e3] at this
        · go_wp2_with fail
          go_roundg rest.length
          case measure=>rw [Hg.out];simp
          case rel=>exact ⟨pre ++ [c],rest,rfl,by rw [Hp.out];simp,by simp,by have:=HR.out;simpa [upB_lo (c:=c) (.inr (by omega))] using this,hb⟩
      · go_wp2_with fail
        go_roundg rest.length
        case measure=>rw [Hg.out];simp
        case rel=>exact ⟨pre ++ [c],rest,rfl,by rw [Hp.out];simp,by simp,by have:=HR.out;simpa [upB_lo (c:=c) (.inl (by omega))] using this,hb⟩
set_option maxRecDepth 100000 in
set_option maxHeartbeats 40000000 in
theorem lower_any (l:By) (hl:l.length≤1000000000) (w:World):Calls Tryz.prog 136 #[.string (bs l)] w fun e w'=>e=.returned (.string (bs (l.map loB)))∧Below w.heap.size w w':=by
  have hcv:=Lib.run_convert_string_bytes w 9 84 5 (bs l) Tryz.underlying9 Tryz.underlying84 Tryz.underlying5
  have hrow:=RowB.fresh w l
  have hbw:=Lib.bytesWorld_below w 5 (bs l)
  have hBr:w.heap.size≤w.heap.size:=Nat.le_refl _
  obtain ⟨r,hr⟩:∃ r,r=w.heap.size:=⟨_,rfl⟩
  generalize Lib.bytesWorld w 5 (bs l)=W at hcv hrow hbw
  generalize grownCap w (bs l).size 0 5=cap at hcv
  rw [bs_size] at hcv
  rw [←hr] at hcv hrow
  have Hr:=Lib.hid hr
  clear hr hBr
  go_enter Tryz.func136,Tryz.ntmps136
  go_wp2_with fail
  go_loopg [10] l.length (fun g t10 wr=>∃ (pre rest:By),g=rest.length∧l=pre ++ rest∧t10=.int .i64 pre.length∧RowB wr r (pre.map loB ++ rest)∧Below w.heap.size w wr)
  case atStart=>exact ⟨[],l,rfl,rfl,rfl,hrow,hbw⟩
  case round =>
    obtain ⟨pre,rest,hg,hp,rfl,hr,hb⟩:=hrel
    have hpl:pre.length + rest.length=l.length:=by rw [hp];simp
    clear hcv hrow hbw
    cases rest with
    | nil =>
      have hst:=hr.str cap
      rw [List.append_nil,List.length_map] at hst
      rw [List.append_nil] at hp
      rw [←hp] at hst
      have hlt:¬(pre.length:Int) < l.length:=by rw [hp];omega
      clear hp hpl hr hg
      go_wp2_with fail
      go_ret
      exact ⟨rfl,hb⟩
    | cons c rest =>
      have hlt:pre.length < l.length:=by simp at hpl;omega
      have hget:(pre.map loB ++ c::rest)[pre.length]?=some c:=by simp
      obtain ⟨hc,hf⟩:=hr.cell hget
      have hrl:=hr.lt
      have HR:=Lib.hid hr
      have Hp:=Lib.hid hp
      have Hg:=Lib.hid hg
      have hrange:=bi_range c
      clear hr hp hg hget hpl
      by_cases h1:65≤(c.toNat:Int)
      · by_cases h2:(c.toNat:Int)≤90
        · have e1:IntKind.u8.wrap ((c.toNat:Int) - 65)=(c.toNat:Int) - 65:=wrap8 (by omega) (by omega)
          have e2:IntKind.u8.wrap ((c.toNat:Int) - 65 + 97)=(c.toNat:Int) - 65 + 97:=wrap8 (by omega) (by omega)
          go_wp2_with fail
          go_roundg rest.length
          case measure=>rw [Hg.out];simp
          case rel =>
            refine ⟨pre ++ [c],rest,rfl,by rw [Hp.out];simp,by simp,?_,hb.setCell (p:=⟨r,_,none⟩) (by rw [Hr.out];exact Nat.le_refl _) _⟩
            have:=HR.out.set pre.length (loB c)
            rw [loB_hi h1 h2] at this
            have e3:(pre.map loB ++ c::rest).set pre.length (loB c)=(pre ++ [c]).map loB ++ rest:=by
              have:=set_mid (pre.map loB) rest c (loB c)
              rw [List.length_map] at this
              rw [this];simp
            rwa [e3] at this
        · go_wp2_with fail
          go_roundg rest.length
          case measure=>rw [Hg.out];simp
          case rel=>exact ⟨pre ++ [c],rest,rfl,by rw [Hp.out];simp,by simp,by have:=HR.out;simpa [loB_lo (c:=c) (.inr (by omega))] using this,hb⟩
      · go_wp2_with fail
        go_roundg rest.length
        case measure=>rw [Hg.out];simp
        case rel=>exact ⟨pre ++ [c],rest,rfl,by rw [Hp.out];simp,by simp,by have:=HR.out;simpa [loB_lo (c:=c) (.inl (by omega))] using this,hb⟩
end Go.Proofs.YtfkecmlmnhbmoaaGreatDoor
namespace Go.Proofs.YtfkecmlmnhbmoaaGreatDoor
open Go Go.RowKit
set_option maxRecDepth 100000 in
set_option maxHeartbeats 40000000 in
theorem ref_e (pf:By→Nat) (W0 w:World) (hI:Init W0) (hpf:PFC pf W0) (hE:Env W0 w) (b:Nat) (s:ByteArray) (p l:By) (deep:Int) (odd ends:Bool) (hR:RdAt w b s p l 0 deep odd ends) (hs:s.size≤140737488351240)
    (hW0:W0.heap.size≤b) (n:Int) (text:ByteArray) (tl:By) (htl:text.data.toList=tl) (hnum:numF pf tl=(2,n,0,0))
    {la:By} {oa:Bool} {gk gn st:Int} {gx:Nat} (hP1:passM false l odd=(la,oa)) (hN:numF pf (wordT la)=(gk,gn,gx,st))
    {lc:By} {oc:Bool} (hP5:passM false (wordR la) (wordO la oa)=(lc,oc)) {c:UInt8} {W:By} (hW:wordT lc=c::W) {O:Bool} (hO:wordO lc oc=O) (hst:(st == 1)=false) (hw:c::W=[82]) (hs0:(st != 0)=true) :
    Calls Tryz.prog 64 #[.pointer (some ⟨b,0,none⟩),numV 2 n 0,.string text] w fun e w'=>RefPost w w' b s deep ends e (refF pf n tl l odd):=by
  have HR:=Lib.hid hR
  have hbB:=hR.lt
  obtain ⟨c0,c1,c2,c3,c4,c5,cf⟩:=hR.cells
  have HI:=Lib.hid hI;clear hI
  have Hpf:=Lib.hid hpf;clear hpf
  have HE:=Lib.hid hE;clear hE
  have Htl:=Lib.hid htl;clear htl
  have Hnum:=Lib.hid hnum;clear hnum
  clear hR
  unfold numV
  go_enter Tryz.func64,Tryz.ntmps64
  go_wp2_with fail
  have hal:=alloc3 w (NB n) (.cells #[.int .i64 0,.int .i64 0,.int .i64 0,.float .f64 0,.string ⟨#[]⟩,.slice none 0 0,.slice none 0 0] 30 (0,0)) (.cells #[.string s,.int .i64 p.length,.int .i64 0,.int .i64 deep,.bool odd,.bool ends] 57 (0,0))
  refine (pass_any _ (w.heap.size + 1 + 1) s p l 0 deep odd ends (by exact ⟨HR.out.1,hal.2.2.1⟩) (by omega)).mono ?_
  rintro e w1 ⟨rfl,⟨p1,hA1⟩,hg1⟩
  have hI0:RefI w _ b s p l deep odd ends n p l odd:=⟨hal.2.2.2.2.but _,HR.out.grown hal.2.2.2.2 (by simp),⟨HR.out.1,hal.2.2.1⟩,hal.1,hal.2.1,hbB⟩
  have HJ:=Lib.hid (hI0.call hg1 hA1)
  clear hI0 hg1 hA1 hal c0 c1 c2 c3 c4 c5 cf
  rw [hP1] at HJ
  go_wp2_with fail
  refine (word_any _ (w.heap.size + 1 + 1) s p1 la 0 deep oa ends (by exact HJ.out.hA) (by omega)).mono ?_
  rintro e w2 ⟨rfl,hA2,hg2⟩
  have HJ2:=Lib.hid (HJ.out.call hg2 hA2)
  clear hg2 hA2 HJ
  have hsz2:(wordT la).length≤140737488351240:=by
    have:=HJ2.out.hA.size
    simp at this;omega
  generalize hsec:(⟨(wordT la).toArray⟩:ByteArray)=sec
  have hsz3:sec.size≤140737488351240:=by rw [←hsec];show (List.toArray (wordT la)).size≤140737488351240;simpa using hsz2
  have hsl:sec.data.toList=wordT la:=by rw [←hsec]
  have Hsec:=Lib.hid hsec;clear hsec
  have Hsl:=Lib.hid hsl;clear hsl
  go_wp2_with fail
  refine (number_any pf W0 _ HI.out Hpf.out (by exact HE.out.grown HJ2.out.hG (fun k hk=>by injection hk with hk;omega)) sec (wordT la) Hsl.out hsz3).mono ?_
  rintro e w3 ⟨rfl,hg3⟩
  have HJ3:=Lib.hid (HJ2.out.call0 hg3)
  clear hg3 HJ2
  rw [hN]
  have HP1:=Lib.hid hP1;clear hP1
  have HN:=Lib.hid hN;clear hN
  unfold numRet numV
  have hc9:w.heap.size + 1 + 1 < w3.heap.size:=HJ3.out.hA.lt
  have HJ4:=Lib.hid (HJ3.out.call0 (gr_alloc (World.grownBy.refl w3 none) (NG gk gn gx)))
  have HN4:=Lib.hid (heap_alloc_new w3 (NG gk gn gx))
  clear HJ3
  go_wp2_with fail
  refine (pass_any _ (w.heap.size + 1 + 1) s _ _ 0 deep _ ends (by exact HJ4.out.hA) (by omega)).mono ?_
  rintro e w5 ⟨rfl,⟨p5,hA5⟩,hg5⟩
  have HJ5:=Lib.hid (HJ4.out.call hg5 hA5)
  have HN5:=Lib.hid (keep hg5 HN4.out (by simp;omega))
  clear HJ4 HN4 hA5 hg5
  rw [hP5] at HJ5
  go_wp2_with fail
  refine (word_any _ (w.heap.size + 1 + 1) s p5 lc 0 deep oc ends (by exact HJ5.out.hA) (by omega)).mono ?_
  rintro e w6 ⟨rfl,hA6,hg6⟩
  have HJ6:=Lib.hid (HJ5.out.call hg6 hA6)
  have HN6:=Lib.hid (keep hg6 HN5.out (by simp;omega))
  clear HJ5 HN5 hA6 hg6
  have HP5:=Lib.hid hP5;clear hP5
  obtain ⟨c0,c1,c2,c3,c4,c5,cf⟩:=HJ6.out.hR.cells
  obtain ⟨a0,a1,a2,a3,a4,a5,af⟩:=HJ6.out.hA.cells
  obtain ⟨v0,v1,v2,v3,v4,v5,v6,vf⟩:=cells7 HJ6.out.hV
  obtain ⟨z0,z1,z2,z3,z4,z5,z6,zf⟩:=zb_cells HJ6.out.hZ
  obtain ⟨n0,n1,n2,n3,n4,n5,n6,nf⟩:=cells7 HN6.out
  have hb3:w.heap.size + 1 + 1 < w6.heap.size:=HJ6.out.hA.lt
  have hb4:b < w6.heap.size:=by omega
  have hb5:w.heap.size < w6.heap.size:=by omega
  have hb6:w.heap.size + 1 < w6.heap.size:=by omega
  have hn1:¬w.heap.size + 1=b:=by omega
  rw [hO] at a4 HJ6
  generalize hwd:(⟨(wordT lc).toArray⟩:ByteArray)=wd
  have hwl:wd.data.toList=wordT lc:=by rw [←hwd]
  have Hwd:=Lib.hid hwd;clear hwd
  have Hwl:=Lib.hid hwl;clear hwl
  rw [hW] at Hwl
  have HW:=Lib.hid hW;clear hW
  have HO:=Lib.hid hO;clear hO
  obtain ⟨hlt0,hc0,hd0,hr0,hr1⟩:=at_byte (pre:=[]) (by simpa using Hwl.out)
  simp only [List.length_nil] at hlt0 hc0 hd0
  have hwe:¬wd.toList=[]:=by rw [ByteArray.toList_eq,Hwl.out];simp
  have hie:wd.toList.isEmpty=false:=by rw [ByteArray.toList_eq,Hwl.out];rfl
  have hw1:wd.toList=[82]:=by rw [ByteArray.toList_eq,Hwl.out,hw]
  have h82:((c.toNat:Int) == 82)=true:=by injection hw with e1 e2;rw [e1];rfl
  have Hw:=Lib.hid hw;clear hw
  have hres:=ref_1 (n:=n) (tl:=tl) HP1.out HN.out hst HP5.out HW.out HO.out (.inr (.inl (by simpa using hs0)))
  cases odd<;>cases O
  all_goals
    simp only [Bool.false_or,Bool.true_or,Bool.or_false,Bool.or_true,Bool.or_self,headIs,h82] at hres
    go_wp2_with fail
    have Hres:=Lib.hid hres;clear hres
    refine bodyPost_ret (v:=valOf (.int n) nilS nilS) (by simp [results,Tryz.results64,go_sem,valOf,nilS,pvKind,pvInt,pvGen,pvReal,pvText,z0,z1,z2,z3,z4,z5,z6,hb3,hb4,hb5,hb6,hn1]) rfl ?_
    rw [Hres.out]
    refine ⟨rfl,⟨p,(by repeat (first | with_reducible exact HJ6.out.hR | with_reducible apply RdAt.alloc | with_reducible apply RdAt.set4 | ((with_reducible refine RdAt.setO ?_ ?_ _ _);rotate_left;(first | omega | (simp;omega)))))⟩,(by repeat (first | with_reducible exact HJ6.out.hG | with_reducible apply gr_alloc | with_reducible apply gr_drewN | with_reducible apply gr_drew | with_reducible apply gr_set | ((with_reducible refine gr_setM ?_ ?_ _ _);rotate_left;(first | omega | (simp;omega)))))⟩
set_option maxRecDepth 100000 in
set_option maxHeartbeats 40000000 in
theorem ref_f (pf:By→Nat) (W0 w:World) (hI:Init W0) (hpf:PFC pf W0) (hE:Env W0 w) (b:Nat) (s:ByteArray) (p l:By) (deep:Int) (odd ends:Bool) (hR:RdAt w b s p l 0 deep odd ends) (hs:s.size≤140737488351240)
    (hW0:W0.heap.size≤b) (n:Int) (text:ByteArray) (tl:By) (htl:text.data.toList=tl) (hnum:numF pf tl=(2,n,0,0))
    {la:By} {oa:Bool} {gk gn:Int} {gx:Nat} (hP1:passM false l odd=(la,oa)) (hN:numF pf (wordT la)=(gk,gn,gx,0))
    {lc:By} {oc:Bool} (hP5:passM false (wordR la) (wordO la oa)=(lc,oc)) {c:UInt8} {W:By} (hW:wordT lc=c::W) {O:Bool} (hO:wordO lc oc=O) (hw:c::W=[82]) (hk0:(gk != 2)=true) :
    Calls Tryz.prog 64 #[.pointer (some ⟨b,0,none⟩),numV 2 n 0,.string text] w fun e w'=>RefPost w w' b s deep ends e (refF pf n tl l odd):=by
  have hst:((0:Int) == 1)=false:=rfl
  have HR:=Lib.hid hR
  have hbB:=hR.lt
  obtain ⟨c0,c1,c2,c3,c4,c5,cf⟩:=hR.cells
  have HI:=Lib.hid hI;clear hI
  have Hpf:=Lib.hid hpf;clear hpf
  have HE:=Lib.hid hE;clear hE
  have Htl:=Lib.hid htl;clear htl
  have Hnum:=Lib.hid hnum;clear hnum
  clear hR
  unfold numV
  go_enter Tryz.func64,Tryz.ntmps64
  go_wp2_with fail
  have hal:=alloc3 w (NB n) (.cells #[.int .i64 0,.int .i64 0,.int .i64 0,.float .f64 0,.string ⟨#[]⟩,.slice none 0 0,.slice none 0 0] 30 (0,0)) (.cells #[.string s,.int .i64 p.length,.int .i64 0,.int .i64 deep,.bool odd,.bool ends] 57 (0,0))
  refine (pass_any _ (w.heap.size + 1 + 1) s p l 0 deep odd ends (by exact ⟨HR.out.1,hal.2.2.1⟩) (by omega)).mono ?_
  rintro e w1 ⟨rfl,⟨p1,hA1⟩,hg1⟩
  have hI0:RefI w _ b s p l deep odd ends n p l odd:=⟨hal.2.2.2.2.but _,HR.out.grown hal.2.2.2.2 (by simp),⟨HR.out.1,hal.2.2.1⟩,hal.1,hal.2.1,hbB⟩
  have HJ:=Lib.hid (hI0.call hg1 hA1)
  clear hI0 hg1 hA1 hal c0 c1 c2 c3 c4 c5 cf
  rw [hP1] at HJ
  go_wp2_with fail
  refine (word_any _ (w.heap.size + 1 + 1) s p1 la 0 deep oa ends (by exact HJ.out.hA) (by omega)).mono ?_
  rintro e w2 ⟨rfl,hA2,hg2⟩
  have HJ2:=Lib.hid (HJ.out.call hg2 hA2)
  clear hg2 hA2 HJ
  have hsz2:(wordT la).length≤140737488351240:=by
    have:=HJ2.out.hA.size
    simp at this;omega
  generalize hsec:(⟨(wordT la).toArray⟩:ByteArray)=sec
  have hsz3:sec.size≤140737488351240:=by rw [←hsec];show (List.toArray (wordT la)).size≤140737488351240;simpa using hsz2
  have hsl:sec.data.toList=wordT la:=by rw [←hsec]
  have Hsec:=Lib.hid hsec;clear hsec
  have Hsl:=Lib.hid hsl;clear hsl
  go_wp2_with fail
  refine (number_any pf W0 _ HI.out Hpf.out (by exact HE.out.grown HJ2.out.hG (fun k hk=>by injection hk with hk;omega)) sec (wordT la) Hsl.out hsz3).mono ?_
  rintro e w3 ⟨rfl,hg3⟩
  have HJ3:=Lib.hid (HJ2.out.call0 hg3)
  clear hg3 HJ2
  rw [hN]
  have HP1:=Lib.hid hP1;clear hP1
  have HN:=Lib.hid hN;clear hN
  unfold numRet numV
  have hc9:w.heap.size + 1 + 1 < w3.heap.size:=HJ3.out.hA.lt
  have HJ4:=Lib.hid (HJ3.out.call0 (gr_alloc (World.grownBy.refl w3 none) (NG gk gn gx)))
  have HN4:=Lib.hid (heap_alloc_new w3 (NG gk gn gx))
  clear HJ3
  go_wp2_with fail
  refine (pass_any _ (w.heap.size + 1 + 1) s _ _ 0 deep _ ends (by exact HJ4.out.hA) (by omega)).mono ?_
  rintro e w5 ⟨rfl,⟨p5,hA5⟩,hg5⟩
  have HJ5:=Lib.hid (HJ4.out.call hg5 hA5)
  have HN5:=Lib.hid (keep hg5 HN4.out (by simp;omega))
  clear HJ4 HN4 hA5 hg5
  rw [hP5] at HJ5
  go_wp2_with fail
  refine (word_any _ (w.heap.size + 1 + 1) s p5 lc 0 deep oc ends (by exact HJ5.out.hA) (by omega)).mono ?_
  rintro e w6 ⟨rfl,hA6,hg6⟩
  have HJ6:=Lib.hid (HJ5.out.call hg6 hA6)
  have HN6:=Lib.hid (keep hg6 HN5.out (by simp;omega))
  clear HJ5 HN5 hA6 hg6
  have HP5:=Lib.hid hP5;clear hP5
  obtain ⟨c0,c1,c2,c3,c4,c5,cf⟩:=HJ6.out.hR.cells
  obtain ⟨a0,a1,a2,a3,a4,a5,af⟩:=HJ6.out.hA.cells
  obtain ⟨v0,v1,v2,v3,v4,v5,v6,vf⟩:=cells7 HJ6.out.hV
  obtain ⟨z0,z1,z2,z3,z4,z5,z6,zf⟩:=zb_cells HJ6.out.hZ
  obtain ⟨n0,n1,n2,n3,n4,n5,n6,nf⟩:=cells7 HN6.out
  have hb3:w.heap.size + 1 + 1 < w6.heap.size:=HJ6.out.hA.lt
  have hb4:b < w6.heap.size:=by omega
  have hb5:w.heap.size < w6.heap.size:=by omega
  have hb6:w.heap.size + 1 < w6.heap.size:=by omega
  have hn1:¬w.heap.size + 1=b:=by omega
  rw [hO] at a4 HJ6
  generalize hwd:(⟨(wordT lc).toArray⟩:ByteArray)=wd
  have hwl:wd.data.toList=wordT lc:=by rw [←hwd]
  have Hwd:=Lib.hid hwd;clear hwd
  have Hwl:=Lib.hid hwl;clear hwl
  rw [hW] at Hwl
  have HW:=Lib.hid hW;clear hW
  have HO:=Lib.hid hO;clear hO
  obtain ⟨hlt0,hc0,hd0,hr0,hr1⟩:=at_byte (pre:=[]) (by simpa using Hwl.out)
  simp only [List.length_nil] at hlt0 hc0 hd0
  have hwe:¬wd.toList=[]:=by rw [ByteArray.toList_eq,Hwl.out];simp
  have hie:wd.toList.isEmpty=false:=by rw [ByteArray.toList_eq,Hwl.out];rfl
  have hw1:wd.toList=[82]:=by rw [ByteArray.toList_eq,Hwl.out,hw]
  have h82:((c.toNat:Int) == 82)=true:=by injection hw with e1 e2;rw [e1];rfl
  have Hw:=Lib.hid hw;clear hw
  have hres:=ref_1 (n:=n) (tl:=tl) HP1.out HN.out hst HP5.out HW.out HO.out (.inr (.inr (.inl (by simpa using hk0))))
  cases odd<;>cases O
  all_goals
    simp only [Bool.false_or,Bool.true_or,Bool.or_false,Bool.or_true,Bool.or_self,headIs,h82] at hres
    go_wp2_with fail
    have Hres:=Lib.hid hres;clear hres
    refine bodyPost_ret (v:=valOf (.int n) nilS nilS) (by simp [results,Tryz.results64,go_sem,valOf,nilS,pvKind,pvInt,pvGen,pvReal,pvText,z0,z1,z2,z3,z4,z5,z6,hb3,hb4,hb5,hb6,hn1]) rfl ?_
    rw [Hres.out]
    refine ⟨rfl,⟨p,(by repeat (first | with_reducible exact HJ6.out.hR | with_reducible apply RdAt.alloc | with_reducible apply RdAt.set4 | ((with_reducible refine RdAt.setO ?_ ?_ _ _);rotate_left;(first | omega | (simp;omega)))))⟩,(by repeat (first | with_reducible exact HJ6.out.hG | with_reducible apply gr_alloc | with_reducible apply gr_drewN | with_reducible apply gr_drew | with_reducible apply gr_set | ((with_reducible refine gr_setM ?_ ?_ _ _);rotate_left;(first | omega | (simp;omega)))))⟩
end Go.Proofs.YtfkecmlmnhbmoaaGreatDoor
namespace Go.Proofs.YtfkecmlmnhbmoaaGreatDoor
theorem hex_all {l1 t r:By} (h:hexF l1 false 0 [] false=(0,t,r,false)):∃ h,l1=h ++ 62::r∧(∀ c∈h,hexOkc c)∧∀ a m c,h=a ++ m ++ c→(∀ x∈a,isWhite (x.toNat:Int)=true∧(x.toNat:Int)≠0)→(∀ x∈c,isWhite (x.toNat:Int)=true)→(∀ d∈hexS m 0 [],0≤hexVal (d.toNat:Int))∧hexF (hexS m 0 [] ++ [62]) false 0 [] false=(0,t,[],false):=by
  obtain ⟨hh,rfl,h2,_,h4⟩:=hex_lit _ false 0 [] t r 0 (by decide) h
  refine ⟨hh,rfl,h2,fun a m c e ha hc=>?_⟩
  subst e
  have h5:=h4 (a ++ m) c rfl hc
  rw [List.append_assoc] at h5
  have h6:=hex_left a _ 0 t r ha h5
  obtain ⟨h',e,h7,h8,_⟩:=hex_lit _ false 0 [] t r 0 (by decide) h6
  have:m=h':=List.append_cancel_right e
  subst this
  exact ⟨hexS_dig _ _ h7,h8⟩
theorem hexS_len:∀ (l:By) (i:Nat),(hexS l i []).length≤2 * l.length + 1:=by
  intro l
  induction l with
  | nil=>intro i;simp only [hexS];split<;>simp
  | cons c l ih =>
    intro i
    simp only [hexS]
    split
    · split
      · rw [hexS_acc];have:=ih 0;simp;omega
      · have:=ih i;simp;omega
    · rw [hexS_acc];have:=ih (i + 1);simp;omega
theorem litF_open (l:By):litF (40::l) 0 []=litF l 1 []:=by
  rw [litF_cons]
  simp
theorem lit_all {l t r:By} (h:litF (40::l) 0 []=some (t,r)):∃ s,l=s ++ 41::r∧balF false l 1=some (s,r)∧litF (40::(s ++ [41])) 0 []=some (t,[]):=by
  rw [litF_open] at h
  obtain ⟨s,h1,h2,h3⟩:=lit_bal l.length l 1 [] t r (Nat.le_refl _) (by omega) h
  exact ⟨s,h1,h2,by rw [litF_open];exact h3⟩
end Go.Proofs.YtfkecmlmnhbmoaaGreatDoor
namespace Go.Proofs.YtfkecmlmnhbmoaaGreatDoor
theorem hexVal_char {n:Int} (h:0≤hexVal n):(48≤n∧n≤57)∨(97≤n∧n≤102)∨(65≤n∧n≤70):=by
  unfold hexVal at h
  split at h
  · exact .inl (by assumption)
  · split at h
    · exact .inr (.inl (by assumption))
    · split at h
      · exact .inr (.inr (by assumption))
      · omega
theorem hexF_close:∀ (s:By) (od:Bool) (half:Int) (out:By) (o:Bool),(∀ c∈s,0≤hexVal (c.toNat:Int))→∃ t,∀ r,hexF (s ++ 62::r) od half out o=(0,t,r,o):=by
  intro s
  induction s with
  | nil=>intro od half out o _;exact ⟨_,fun r=>by simp only [List.nil_append,hexF];rfl⟩
  | cons c s ih =>
    intro od half out o h
    have hc:=h c (by simp)
    have hr:=hexVal_char hc
    have e1:((c.toNat:Int) == 62)=false:=by simp;omega
    have e2:isWhite (c.toNat:Int)=false:=by simp [isWhite];omega
    have hs:∀ d∈s,0≤hexVal (d.toNat:Int):=fun d hd=>h d (by simp [hd])
    cases od with
    | true =>
      obtain ⟨t,ht⟩:=ih false half (out ++ [ub (half * 16 + hexVal (c.toNat:Int))]) o hs
      refine ⟨t,fun r=>?_⟩
      rw [List.cons_append]
      simp only [hexF,e1,e2,Bool.false_eq_true,if_false]
      rw [if_neg (by omega)]
      simpa using ht r
    | false =>
      obtain ⟨t,ht⟩:=ih true (hexVal (c.toNat:Int)) out o hs
      refine ⟨t,fun r=>?_⟩
      rw [List.cons_append]
      simp only [hexF,e1,e2,Bool.false_eq_true,if_false]
      rw [if_neg (by omega)]
      simpa using ht r
theorem hex_read {s:By} (h:∀ c∈s,0≤hexVal (c.toNat:Int)) (r:By):hexF (s ++ 62::r) false 0 [] false=(0,hexT s,r,false):=by
  obtain ⟨t,ht⟩:=hexF_close s false 0 [] false h
  have:hexT s=t:=by unfold hexT;rw [ht []]
  rw [this];exact ht r
end Go.Proofs.YtfkecmlmnhbmoaaGreatDoor
