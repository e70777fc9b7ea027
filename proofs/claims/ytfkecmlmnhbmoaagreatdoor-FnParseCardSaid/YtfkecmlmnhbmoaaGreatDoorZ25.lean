/- FnParse: the texts B7 of the workbench, laid together. -/
import Derived.Test.YtfkecmlmnhbmoaaGreatDoorProg
import Derived.WalkKit
import Derived.WalkLawsBesides
import Derived.WalkSpells
import Derived.BigQuiet
import Derived.BigRegion
import Derived.Deep.QuietTactic
import Derived.Deep.RegionHeld3
import Derived.Deep.LoopGhost
import Derived.StillTailTactics
import Derived.Lib.Hide
import Derived.Laws.EntriesVeiled
import Derived.Test.YtfkecmlmnhbmoaaGreatDoorZ24
set_option linter.unusedVariables false
set_option linter.unusedSimpArgs false
namespace Go.Proofs.YtfkecmlmnhbmoaaGreatDoor
open Go Go.RowKit
def ValB:Prop:=∀ (w:World) (b:Nat) (s:ByteArray) (p l:By) (bad deep:Int) (odd ends:Bool),s.size≤1000000000→RdAt w b s p l bad deep odd ends→bad≠0 →
  Calls Tryz.prog 28 #[.pointer (some ⟨b,0,none⟩)] w fun e w'=>e=.returned zeroV∧(∃ p' l' o',RdAt w' b s p' l' bad deep o' ends)∧w.grownBy w' (some b)
theorem RdAt.skip2 {w:World} {b:Nat} {s:ByteArray} {p l:By} {bad deep:Int} {odd ends:Bool} {c d:UInt8} (h:RdAt w b s p (c::d::l) bad deep odd ends) :
    RdAt (w.setCell ⟨b,1,Option.none⟩ (.int .i64 (p.length + 2))) b s (p ++ [c,d]) l bad deep odd ends:=by
  have:=h.jump (P2:=p ++ [c,d]) (r:=l) (by rw [h.1];simp)
  simpa using this
theorem Tryz.info9:(Tryz.prog.info? 9).map (fun i=>(i.zero,i.size,i.bytes))=some (some (.string ⟨#[]⟩),1,16):=by kernel_rfl
theorem row_len {w:World} {base:Nat} {e:TypeId} {size:Nat} {o:Option Addr} {n c m:Nat} {xs:List Value} (h:w.ownsRow base e size (.slice o n c) m xs):n=m:=by
  rcases h.2 with ⟨hv,hm⟩ | ⟨g,cap,cur,hv,_⟩
  · injection hv with _ h1 _;omega
  · injection hv with _ h1 _
theorem row_cell {w:World} {base:Nat} {e:TypeId} {o:Option Addr} {n c m i:Nat} {xs:List Value} {u:Value} (h:w.ownsRow base e 1 (.slice o n c) m xs) (hu:xs[i]?=some u):∃ g,o=some ⟨g,0,none⟩∧w.cell? ⟨g,i,none⟩=some u:=by
  obtain ⟨h1,h2⟩:=h
  have hi:i < xs.length:=(List.getElem?_eq_some_iff.1 hu).1
  rcases h2 with ⟨hv,hm⟩ | ⟨g,cap,cur,hv,hb,hg,hc,hm,hs,ht⟩
  · subst hm;simp at h1;subst h1;simp at hi
  · injection hv with h3 _ _
    refine ⟨g,h3,?_⟩
    have hj2:cur.toList[i]?=some u:=by
      rw [←ht,List.getElem?_take] at hu
      split at hu
      · exact hu
      · simp at hu
    have hj3:cur[i]?=some u:=by simpa using hj2
    simp [World.cell?,hg,hj3]
theorem bytes_eq {a b:ByteArray} (h:a.data.toList=b.data.toList):a=b:=by
  obtain ⟨⟨a⟩⟩:=a
  obtain ⟨⟨b⟩⟩:=b
  simp only at h
  rw [h]
theorem failB_ne (bad what:Int) (h:what≠0):failB bad what≠0:=by unfold failB;split<;>assumption
theorem notin_take {keys:List By} {i:Nat} {key:By} (h:i < keys.length):key∉keys.take (i + 1)↔key∉keys.take i∧keys[i]≠key:=by
  rw [←List.take_append_getElem h,List.mem_append]
  simp only [List.mem_singleton]
  constructor
  · intro e;exact ⟨fun x=>e (.inl x),fun x=>e (.inr x.symm)⟩
  · rintro ⟨e1,e2⟩ (e | e)
    · exact e1 e
    · exact e2 e.symm
theorem value_bad {pf:By→Nat} {W0 w:World} {n:Nat} (hV:ValC pf W0 n) (hVB:ValB) {b:Nat} {s:ByteArray} {p l:By} {bad:Int} {odd ends:Bool} (hE:Env W0 w) (hW0:W0.heap.size≤b) (hs:s.size≤1000000000) (hR:RdAt w b s p l bad (50 - n) odd ends) (hn:n≤50) (h:bad≠0∨bad=0∧rdV pf n l odd=none) :
    Calls Tryz.prog 28 #[.pointer (some ⟨b,0,none⟩)] w fun e w'=>VPost w w' b s (50 - n) ends e none:=by
  rcases h with h | ⟨rfl,h⟩
  · refine (hVB w b s p l bad (50 - n) odd ends hs hR h).mono ?_
    rintro e w' ⟨rfl,⟨p',l',o',hR'⟩,hg⟩
    exact ⟨zeroV,rfl,⟨_,_,_,_,_,_,_,_,_,_,_,rfl⟩,⟨p',l',o',bad,ends,h,hR'⟩,hg⟩
  · have:=hV w b s p l odd ends hE hW0 hs hR hn
    rwa [h] at this
theorem nameB_len:∀ (n:Nat) (l out r:By),l.length≤n→nameB l out=some r→r.length≤out.length + l.length:=by
  intro n
  induction n with
  | zero =>
    intro l out r hl h
    obtain rfl:l=[]:=List.eq_nil_of_length_eq_zero (by omega)
    simp [nameB] at h;subst h;simp
  | succ n ih =>
    intro l out r hl h
    match l with
    | []=>simp [nameB] at h;subst h;simp
    | c :: l =>
      rcases Bool.eq_false_or_eq_true ((c.toNat:Int) != 35) with h1 | h1
      · rw [nameB_plain h1] at h
        have:=ih l _ _ (by simp at hl;omega) h
        simp at this ⊢;omega
      · match l with
        | []=>rw [nameB_1 h1] at h;simp at h
        | [a]=>rw [nameB_2 h1] at h;simp at h
        | a :: b :: l =>
          rw [nameB_3 h1] at h
          split at h
          · simp at h
          · split at h
            · simp at h
            · have:=ih l _ _ (by simp at hl;omega) h
              simp at this ⊢;omega
def DictI (w wr:World) (b:Nat) (s:ByteArray) (deep:Int) (ends:Bool) (f:By→Bool→Rd PV) (R:Rd (List By × List PV)) (g:Nat):Prop :=
  (∃ ko kn kc so sn sc p' l' o' m keys acc S cells,ColG w wr b 7 (.slice ko kn kc) (.slice so sn sc) keys acc S cells∧g=l'.length + 1∧l'.length≤m∧acc.length + l'.length≤s.size∧keys.length=acc.length∧rdDict f m l' o' keys acc=R∧RdAt wr b s p' l' 0 deep o' ends)
  ∨ (R=none∧g=0∧w.grownBy wr (some b)∧wr.heap[w.heap.size]?=some (.cells #[.int .i64 0,.int .i64 0,.int .i64 0,.float .f64 0,.string ⟨#[]⟩,.slice none 0 0,.slice none 0 0] 30 (0,0))∧(∃ ko kn kc so sn sc,wr.heap[w.heap.size + 1]?=some (AB 7 (.slice ko kn kc) (.slice so sn sc)))∧∃ p' l' o' bad en',bad≠0∧RdAt wr b s p' l' bad deep o' en')
theorem pre2 (n:UInt8) (l:By):[n,n].isPrefixOf l=is2 l (n.toNat:Int):=by
  have key:∀ c:UInt8,(n == c)=((c.toNat:Int) == (n.toNat:Int)):=by
    intro c
    rw [Bool.eq_iff_iff]
    simp only [beq_iff_eq]
    constructor
    · intro e;rw [e]
    · intro e;apply UInt8.toNat_inj.1;omega
  cases l with
  | nil=>rfl
  | cons c l =>
    cases l with
    | nil=>simp [List.isPrefixOf,is2]
    | cons d l=>simp only [List.isPrefixOf,is2,Bool.and_true,key]
theorem rdDict_end {f:By→Bool→Rd PV} {m:Nat} {l la:By} {o oa:Bool} {ks:List By} {acc:List PV} (h1:passM false l o=(la,oa)) (h2:is2 la 62=true):rdDict f (m + 1) l o ks acc=some ((ks,acc),la.tail.tail,oa):=by
  simp only [rdDict,h1,h2,if_true]
theorem rdDict_else {f:By→Bool→Rd PV} {m:Nat} {l la:By} {o oa:Bool} {ks:List By} {acc:List PV} (h1:passM false l o=(la,oa)) (h2:is2 la 62=false) (h3:headIs la (· == 47)=false):rdDict f m l o ks acc=none:=by
  cases m with
  | zero=>rfl
  | succ m=>simp only [rdDict,h1,h2,h3];rfl
theorem rdDict_noname {f:By→Bool→Rd PV} {m:Nat} {l l2:By} {c:UInt8} {o oa:Bool} {ks:List By} {acc:List PV} (h1:passM false l o=(c::l2,oa)) (h2:is2 (c::l2) 62=false) (h4:nameB (wordT l2) []=none):rdDict f m l o ks acc=none:=by
  cases m with
  | zero=>rfl
  | succ m=>simp [rdDict,h1,h2,h4]
theorem rdDict_badkey {f:By→Bool→Rd PV} {m:Nat} {l l2:By} {c:UInt8} {o oa:Bool} {ks:List By} {acc:List PV} {k:By} (h1:passM false l o=(c::l2,oa)) (h2:is2 (c::l2) 62=false) (h4:nameB (wordT l2) []=some k) (h5:35∈k∨k∈ks):rdDict f m l o ks acc=none:=by
  cases m with
  | zero=>rfl
  | succ m=>simp [rdDict,h1,h2,h4,h5]
theorem rdDict_noval {f:By→Bool→Rd PV} {m:Nat} {l l2:By} {c:UInt8} {o oa:Bool} {ks:List By} {acc:List PV} {k:By} (h1:passM false l o=(c::l2,oa)) (h2:is2 (c::l2) 62=false) (h4:nameB (wordT l2) []=some k) (h6:f (wordR l2) (wordO l2 oa)=none):rdDict f m l o ks acc=none:=by
  cases m with
  | zero=>rfl
  | succ m=>simp [rdDict,h1,h2,h4,h6]
theorem rdDict_some {f:By→Bool→Rd PV} {m:Nat} {l l2:By} {c:UInt8} {o oa:Bool} {ks:List By} {acc:List PV} {k:By} {x:PV} {r:By} {o2:Bool} (h1:passM false l o=(c::l2,oa)) (h2:is2 (c::l2) 62=false) (h3:headIs (c::l2) (· == 47)=true) (h4:nameB (wordT l2) []=some k) (h5:¬(35∈k∨k∈ks)) (h6:f (wordR l2) (wordO l2 oa)=some (x,r,o2)) :
    rdDict f (m + 1) l o ks acc=rdDict f m r o2 (ks ++ [k]) (acc ++ [x]):=by
  simp only [rdDict,h1,h2,h3,List.tail_cons,h4,if_neg h5,h6];rfl
end Go.Proofs.YtfkecmlmnhbmoaaGreatDoor
