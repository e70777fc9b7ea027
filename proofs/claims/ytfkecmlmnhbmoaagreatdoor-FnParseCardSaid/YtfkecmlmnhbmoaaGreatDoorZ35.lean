/- FnParse: the texts F13z G21 G22 G23 of the workbench, laid together. -/
import Derived.Test.YtfkecmlmnhbmoaaGreatDoorProg
import Derived.WalkKit
import Derived.WalkLawsBesides
import Derived.WalkSpells
import Derived.BigQuiet
import Derived.BigRegion
import Derived.Deep.QuietTactic
import Derived.Deep.RegionHeld3
import Derived.Deep.LoopGhost
import Derived.StillTailTactics
import Derived.Lib.Hide
import Derived.Laws.EntriesVeiled
import Derived.Maps.Own
import Derived.Maps.OwnSet
import Derived.Maps.RangeWalk
import Derived.Maps.Views
import Derived.Sort.KeysCollected
import Derived.Test.YtfkecmlmnhbmoaaGreatDoorZ18
import Derived.Test.YtfkecmlmnhbmoaaGreatDoorZ23
import Derived.Test.YtfkecmlmnhbmoaaGreatDoorZ32
import Derived.Test.YtfkecmlmnhbmoaaGreatDoorZ33
import Derived.Test.YtfkecmlmnhbmoaaGreatDoorZ34
set_option linter.unusedVariables false
set_option linter.unusedSimpArgs false
namespace Go.Proofs.YtfkecmlmnhbmoaaGreatDoor
open Go Go.RowKit
theorem rf_any (w:World) (s:ByteArray) (l:By) (hs:s.data.toList=l) (hok:numOk l) (hs2:s.size≤1000) :
    Calls Tryz.prog 143 #[.string s] w fun e w'=>e=rfRet l s.size∧w'=w:=by
  obtain ⟨pre,c,l1,d,a,rfl,hp,hst,hsc,hd1,hd2,ha⟩:=numOk_parts hok
  rcases hp with rfl | rfl | rfl
  · exact rf_nil w s c l1 d a hs hst hsc hd1 hd2 ha hs2
  · exact rf_b w s c l1 d a hs hst hsc hd1 hd2 ha hs2
  · exact rf_c w s c l1 d a hs hst hsc hd1 hd2 ha hs2
end Go.Proofs.YtfkecmlmnhbmoaaGreatDoor
namespace Go.Proofs.YtfkecmlmnhbmoaaGreatDoor
open Go Go.RowKit
open Go.Maps
def RV:Value→Option (DataW Value × List MemPlace):=fun v=>some (.held v,[])
theorem keyed9:Keyed Tryz.prog 9:=Maps.string_keyed (by kernel_rfl)
theorem key9 (k:By) (hk:k.length≤maxLen):keyOf Tryz.prog 9 (.string (bs k))=some (.string k):=by
  have hu:Tryz.prog.underlying 9=some .string:=by kernel_rfl
  have h2:(⟨k.toArray⟩:ByteArray).size≤maxLen:=by have:=bs_size k;unfold bs at this;omega
  simp [keyOf,hu,mapKey,h2,bs]
def DictAt (w:World) (b:Nat) (keys:List By) (vals:List Value):Prop :=
  keys.length=vals.length∧keys.Nodup∧∃ D,w.ownsMap Tryz.prog 9 RV b keys.length D∧(∀ k:By,Maps.has D (.string k)=decide (k∈keys))∧∀ (i:Nat) k v,keys[i]?=some k→vals[i]?=some v→∀ z,D.atKey (.string k) z=.held v
theorem DictAt.new (w:World):DictAt (w.alloc (.map #[] 0)) w.heap.size [] [] :=
  ⟨rfl,List.nodup_nil,_,World.ownsMap_made w _ _ _,by intro k;simp [Maps.has],by intro i k v h;simp at h⟩
theorem DictAt.lt {w:World} {b:Nat} {keys:List By} {vals:List Value} (h:DictAt w b keys vals):b < w.heap.size:=by
  obtain ⟨_,_,D,h,_⟩:=h
  exact h.lt
theorem DictAt.keep {w w':World} {b:Nat} {keys:List By} {vals:List Value} (h:DictAt w b keys vals) (hb:w'.heap[b]?=w.heap[b]?):DictAt w' b keys vals:=by
  obtain ⟨h1,h2,D,⟨es,clock,h3,h4⟩,h5⟩:=h
  exact ⟨h1,h2,D,⟨es,clock,hb.trans h3,h4⟩,h5⟩
theorem DictAt.put {w':World} {b:Nat} {keys:List By} {vals:List Value} {k:By} {v:Value} {D:DataW Value} (h1:keys.length=vals.length) (h2:keys.Nodup) (hT:Maps.IsMap D) (h3:∀ k:By,Maps.has D (.string k)=decide (k∈keys))
    (h4:∀ (i:Nat) k v,keys[i]?=some k→vals[i]?=some v→∀ z,D.atKey (.string k) z=.held v) (hk:k∉keys) (hown:w'.ownsMap Tryz.prog 9 RV b (keys.length + 1) (D.put (.string k) (.held v))):DictAt w' b (keys ++ [k]) (vals ++ [v]):=by
  refine ⟨by simp [h1],?_,_,by simpa using hown,?_,?_⟩
  · rw [List.nodup_append]
    exact ⟨h2,by simp,fun a ha c hc e=>by simp at hc;subst hc;subst e;exact hk ha⟩
  · intro q
    by_cases hq:q=k
    · subst hq
      rw [Maps.has_put_same hT (show WideAt.IsKeyLit (.string q) from trivial)]
      simp
    · rw [Maps.has_put_other (by simpa using hq),h3]
      simp [hq]
  · intro i q u hq hu z
    by_cases hi:i < keys.length
    · rw [List.getElem?_append_left hi] at hq
      rw [List.getElem?_append_left (by omega)] at hu
      have hqk:q≠k:=by rintro rfl;exact hk (List.mem_of_getElem? hq)
      rw [Maps.atKey_put_other (by simpa using hqk)]
      exact h4 i q u hq hu z
    · rw [List.getElem?_append_right (by omega)] at hq
      rw [List.getElem?_append_right (by omega)] at hu
      have hi0:i - keys.length=0:=by
        by_cases h0:i - keys.length=0
        · exact h0
        · obtain ⟨j,hj⟩:∃ j,i - keys.length=j + 1:=⟨i - keys.length - 1,by omega⟩
          rw [hj] at hq;simp at hq
      have hi1:i - vals.length=0:=by omega
      rw [hi0] at hq
      rw [hi1] at hu
      simp at hq hu
      subst hq;subst hu
      exact Maps.atKey_put_same hT (show WideAt.IsKeyLit (.string k) from trivial) _ _
def KeysOk (keys:List By):Prop:=keys.length≤1000000∧∀ k∈keys,k.length≤1000000
mutual
def ObjO (S:Nat→Prop) (w:World):PO→Value→Prop
  | .null,v=>v=.nilIface
  | .bool x,v=>v=.iface 66 (.bool x)
  | .int n,v=>v=.iface 67 (.int .i64 n)
  | .real x,v=>v=.iface 68 (.float .f64 x)
  | .lit s,v=>s.length≤250000∧v=.iface 69 (.string (bs s))
  | .hexl s,v=>s.length≤250000∧v=.iface 70 (.string (bs s))
  | .name s,v=>s.length≤250000∧v=.iface 71 (.string (bs s))
  | .ref n g,v=>v=.iface 73 (.agg #[.int .i64 n,.int .i64 g])
  | .arr kids,v=>kids.length≤1000000∧∃ sl cells,v=.iface 77 sl∧SlAt S w sl 1 kids.length cells∧ObjOs S w kids cells
  | .dict keys kids,v=>KeysOk keys∧∃ b vals,v=.iface 81 (.map (some b))∧S b∧DictAt w b keys vals∧ObjOs S w kids vals
def ObjOs (S:Nat→Prop) (w:World):List PO→List Value→Prop
  | [],c=>c=[]
  | p::ps,c=>∃ v rest,c=v::rest∧ObjO S w p v∧ObjOs S w ps rest
end
mutual
theorem ObjO.keep {S S':Nat→Prop} {w w':World} (hS:∀ k,S k→S' k∧w'.heap[k]?=w.heap[k]?):∀ (p:PO) (v:Value),ObjO S w p v→ObjO S' w' p v
  | .arr kids,v,h=>by
    simp only [ObjO] at h ⊢
    obtain ⟨h0,sl,cells,h1,h2,h3⟩:=h
    exact ⟨h0,sl,cells,h1,h2.keep hS,ObjOs.keep hS kids cells h3⟩
  | .dict keys kids,v,h=>by
    simp only [ObjO] at h ⊢
    obtain ⟨h0,b,vals,h1,h2,h3,h4⟩:=h
    exact ⟨h0,b,vals,h1,(hS b h2).1,h3.keep (hS b h2).2,ObjOs.keep hS kids vals h4⟩
  | .null,v,h=>by simpa only [ObjO] using h
  | .bool _,v,h=>by simpa only [ObjO] using h
  | .int _,v,h=>by simpa only [ObjO] using h
  | .real _,v,h=>by simpa only [ObjO] using h
  | .lit _,v,h=>by simpa only [ObjO] using h
  | .hexl _,v,h=>by simpa only [ObjO] using h
  | .name _,v,h=>by simpa only [ObjO] using h
  | .ref _ _,v,h=>by simpa only [ObjO] using h
theorem ObjOs.keep {S S':Nat→Prop} {w w':World} (hS:∀ k,S k→S' k∧w'.heap[k]?=w.heap[k]?):∀ (ps:List PO) (c:List Value),ObjOs S w ps c→ObjOs S' w' ps c
  | [],c,h=>by simpa only [ObjOs] using h
  | p::ps,c,h=>by
    simp only [ObjOs] at h ⊢
    obtain ⟨v,rest,h1,h2,h3⟩:=h
    exact ⟨v,rest,h1,ObjO.keep hS p v h2,ObjOs.keep hS ps rest h3⟩
end
theorem ObjOs.append {S:Nat→Prop} {w:World} {qs:List PO} {d:List Value} (hy:ObjOs S w qs d):∀ (ps:List PO) (c:List Value),ObjOs S w ps c→ObjOs S w (ps ++ qs) (c ++ d)
  | [],c,h=>by simp only [ObjOs] at h;subst h;simpa using hy
  | p::ps,c,h=>by
    simp only [ObjOs,List.cons_append] at h ⊢
    obtain ⟨v,rest,h1,h2,h3⟩:=h
    exact ⟨v,rest ++ d,by rw [h1];rfl,h2,ObjOs.append hy ps rest h3⟩
theorem ObjOs.one {S:Nat→Prop} {w:World} {p:PO} {v:Value} (h:ObjO S w p v):ObjOs S w [p] [v]:=by
  simp only [ObjOs]
  exact ⟨v,[],rfl,h,rfl⟩
theorem ObjOs.len {S:Nat→Prop} {w:World} : ∀ (ps:List PO) (c:List Value),ObjOs S w ps c→c.length=ps.length
  | [],c,h=>by simp only [ObjOs] at h;subst h;rfl
  | p::ps,c,h=>by
    simp only [ObjOs] at h
    obtain ⟨v,rest,h1,h2,h3⟩:=h
    rw [h1,List.length_cons,List.length_cons,ObjOs.len ps rest h3]
theorem ObjOs.get {S:Nat→Prop} {w:World} : ∀ (ps:List PO) (c:List Value),ObjOs S w ps c→∀ (i:Nat) p,ps[i]?=some p→∃ v,c[i]?=some v∧ObjO S w p v
  | [],c,h,i,p,hi=>by simp at hi
  | q::ps,c,h,i,p,hi=>by
    simp only [ObjOs] at h
    obtain ⟨v,rest,h1,h2,h3⟩:=h
    subst h1
    cases i with
    | zero=>simp at hi;subst hi;exact ⟨v,by simp,h2⟩
    | succ i=>exact ObjOs.get ps rest h3 i p (by simpa using hi)
def ObjPost (nn:Nat→Prop) (n:Nat) (w w':World) (b:Nat) (x:PV) (r:By) (e:Ending):Prop :=
  ∃ po v S,e=.returned (.tuple #[v,.nilIface])∧ObjO S w' po v∧(∀ k,S k→w.heap.size≤k∧k < w'.heap.size)∧Corr nn n po x∧LineAt w' b r∧w.grownBy w' (some b)
theorem ObjPost.plain {nn:Nat→Prop} {n:Nat} {w w':World} {b:Nat} {x:PV} {r:By} {e:Ending} (po:PO) (v:Value) (he:e=.returned (.tuple #[v,.nilIface])) (hO:∀ S w,ObjO S w po v) (hC:Corr nn n po x) (hL:LineAt w' b r) (hg:w.grownBy w' (some b)):ObjPost nn n w w' b x r e :=
  ⟨po,v,fun _=>False,he,hO _ _,fun k hk=>hk.elim,hC,hL,hg⟩
theorem num105_any (pf:By→Nat) (nn:Nat→Prop) (hnn:∀ t,numOk t→nn (pf t)) (W0 w:World) (ea eb:Addr) (ca cb:Array Value) (hI:InitQ W0 ea eb ca cb) (hpf:PFC pf W0) (hE:Env W0 w) (b:Nat) (l:By) (hL:LineAt w b l) (hl:l.length≤1000000) (hW0:W0.heap.size≤b)
    (x:PV) (r:By) (h1:wordT l≠wTrue) (h2:wordT l≠wFalse) (h3:wordT l≠wNull) (h:rdNum pf l false=some (x,r,false)) (n:Nat) :
    Calls Tryz.prog 105 #[.pointer (some ⟨b,0,none⟩)] w fun e w'=>ObjPost nn (n + 1) w w' b x r e:=by
  have ho:=(rdNum_odd h).2
  simp only [rdNum,if_neg h1,if_neg h2,if_neg h3] at h
  split at h
  · simp at h
  · rename_i h0
    have h0:(numF pf (wordT l)).2.2.2=0:=by simpa using h0
    have hne:wordT l≠[]:=by intro e;rw [e,num_nil] at h0;simp at h0
    split at h
    · rename_i hk2
      simp at h
      obtain ⟨rfl,rfl,_⟩:=h
      have hk3:(numF pf (wordT l)).1=3:=by rcases num_kind h0 with e | e;exact absurd e hk2;exact e
      obtain ⟨_,hok,he⟩:=num_isreal h0 hk3
      refine (real105_any pf W0 w ea eb ca cb hI hpf hE b l hL hl ho hne h0 hk3 hW0).mono ?_
      rintro e w' ⟨rfl,hL',hg⟩
      exact ObjPost.plain (.real (pf (wordT l))) _ rfl (fun _ _=>by simp only [ObjO]) (by simp only [Corr];rw [he];exact ⟨rfl,hnn _ hok⟩) hL' hg
    · rename_i hk2
      have hk2:(numF pf (wordT l)).1=2:=by simpa using hk2
      obtain ⟨hat,hlo,hhi⟩:=num_isint h0 hk2
      have hn0:∀ c∈(wordT l).head?,isDig (c.toNat:Int)=true→0≤(numF pf (wordT l)).2.1:=by
        intro c hc hd
        generalize (numF pf (wordT l)).2.1=v at hat
        cases hw:wordT l with
        | nil=>rw [hw] at hc;simp at hc
        | cons d t =>
          rw [hw] at hc hat
          simp at hc;subst hc
          have hd:=(isDig_iff d).1 hd
          simp only [Lib.atoiAll] at hat
          rw [if_neg (by omega)] at hat
          have h45:¬d.toNat=45:=by omega
          cases hp:Lib.parseMag (d::t) with
          | range=>rw [hp] at hat;simp at hat
          | ok u =>
            rw [hp] at hat
            simp only [h45] at hat
            split at hat
            · simp at hat
            · split at hat
              · simp at hat
              · simp at hat;omega
          | _=>rw [hp] at hat;simp at hat
      rw [show wordO l false=false from ho] at h
      obtain ⟨la,c,hS⟩:=RefS.of h hn0
      refine (int105_any pf W0 w hI.toInitP hE b l hL hl ho hne _ (by rw [h0];decide) hat x r la c hS hW0).mono ?_
      rintro e w' ⟨hx,hL',hg⟩
      rcases hx with ⟨rfl,rfl⟩ | ⟨g,rfl,rfl,h4,h5,h6⟩
      · exact ObjPost.plain (.int (numF pf (wordT l)).2.1) _ rfl (fun _ _=>by simp only [ObjO]) (by simp only [Corr];exact ⟨by trivial,hlo,hhi⟩) hL' hg
      · exact ObjPost.plain (.ref (numF pf (wordT l)).2.1 g) _ rfl (fun _ _=>by simp only [ObjO]) (by simp only [Corr];exact ⟨by trivial,by trivial,h4,hhi,h5,h6⟩) hL' hg
end Go.Proofs.YtfkecmlmnhbmoaaGreatDoor
namespace Go.Proofs.YtfkecmlmnhbmoaaGreatDoor
open Go Go.RowKit
open Go.Maps
theorem zero50 (w:World):(zeroValue 50).run Tryz.prog w=.ok .nilIface w:=by kernel_rfl
set_option maxRecDepth 100000 in
set_option maxHeartbeats 40000000 in
theorem new220_any (w:World):Calls Tryz.prog 220 #[] w fun e w'=>e=.returned (.map (some w.heap.size))∧w'=w.alloc (.map #[] 0):=by
  have hmk:=run_makeMap (P:=Tryz.prog) 80 w
  go_enter Tryz.func220,Tryz.ntmps220
  go_wp2_with fail
  go_ret
  exact ⟨rfl,rfl⟩
theorem IsMap.of {w:World} {b n:Nat} {D:DataW Value} (h:w.ownsMap Tryz.prog 9 RV b n D):Maps.IsMap D:=by
  obtain ⟨es,clock,_,_,_,rfl⟩:=h
  exact ⟨_,rfl⟩
set_option maxRecDepth 100000 in
set_option maxHeartbeats 40000000 in
theorem ins222_any (w:World) (b:Nat) (keys:List By) (vals:List Value) (k:By) (v:Value) (h:DictAt w b keys vals) (hk:k∉keys) (hkl:k.length≤1000000) (hn:keys.length≤1000000) :
    Calls Tryz.prog 222 #[.map (some b),.string (bs k),v,.bool false] w fun e w'=>e=.returned .nilIface∧DictAt w' b (keys ++ [k]) (vals ++ [v])∧w.grownBy w' (some b):=by
  obtain ⟨h1,h2,D,hown,h3,h4⟩:=h
  have hT:=IsMap.of hown
  have hhas:Maps.has D (.string k)=false:=by rw [h3];simp [hk]
  have hkey:=key9 k (by unfold maxLen;omega)
  have hu:=Tryz.underlying81
  obtain ⟨v0,ps,hl,hv⟩:=hown.look_ok keyed9 hu (zero50 w) (zd:=.held .nilIface) (zp:=[]) rfl hkey
  rw [hhas] at hl
  obtain ⟨w1,hm,hown1,hg1⟩:=hown.update keyed9 hu (key:=.string (bs k)) (val:=v) (by unfold maxLen;omega) hkey rfl
  have hd:=DictAt.put h1 h2 hT h3 h4 hk hown1
  have Hd:=Lib.hid hd
  have Hg:=Lib.hid hg1
  clear h1 h2 h3 h4 hT hd hg1 hown1 hv
  go_enter Tryz.func222,Tryz.ntmps222
  go_wp2_with fail
  go_ret
  exact ⟨rfl,Hd.out,Hg.out⟩
end Go.Proofs.YtfkecmlmnhbmoaaGreatDoor
namespace Go.Proofs.YtfkecmlmnhbmoaaGreatDoor
open Go Go.RowKit
open Go.Maps
def ObjC (pf:By→Nat) (nn:Nat→Prop) (W0:World) (n:Nat):Prop:=∀ (w:World) (b:Nat) (l:By) (x:PV) (r:By) (lv:Int),Env W0 w→W0.heap.size≤b→LineAt w b l→l.length≤100000→0≤lv→lv + n≤100→rdV pf n l false=some (x,r,false) →
  Calls Tryz.prog 69 #[.agg #[],.pointer (some ⟨b,0,none⟩),.int .i64 lv,.int .i64 100,.bool false] w fun e w'=>ObjPost nn n w w' b x r e
set_option maxRecDepth 100000 in
set_option maxHeartbeats 40000000 in
theorem dstr_any (l:By) (v:Bool) (hne:l≠[]) (h:([62,62]:By).isPrefixOf l=v) (w:World):Calls Tryz.prog 221 #[.string (bs l)] w fun e w'=>e=.returned (.bool !v)∧w'=w:=by
  have hz:0 < (bs l).size:=by rw [bs_size];exact List.length_pos_iff.2 hne
  have hpre:=fun w=>prefix_any l [62,62] v h w
  have ecs:(⟨#[62,62]⟩:ByteArray)=bs [62,62]:=rfl
  generalize bs l=z at hz hpre ⊢
  go_enter Tryz.func221,Tryz.ntmps221
  go_wp2_with fail
  refine (hpre _).mono ?_
  rintro e w1 ⟨rfl,hw1⟩
  subst w1
  go_wp2_with fail
  go_ret
  exact ⟨rfl,rfl⟩
theorem rdV_lb {pf:By→Nat} {n:Nat} {l:By} {x:PV} {r:By} (h:rdV pf n l false=some (x,r,false)):∃ la,passM false l false=(la,false)∧rdV pf n la false=some (x,r,false)∧la≠[]∧(∀ c∈la.head?,isPlain (c.toNat:Int)=true)∧la.length≤l.length∧r.length < la.length:=by
  cases n with
  | zero=>simp [rdV] at h
  | succ n =>
    obtain ⟨_,c,l1,h1,_⟩:=rdV_inv h
    have h2:=rdV_pass (pf:=pf) (n:=n + 1) h1
    have h3:=passM_len false l false
    rw [h1] at h3
    exact ⟨_,h1,h2.trans h,(rdV_plain h1 h).1,(rdV_plain h1 h).2,h3,rdV_len _ _ _ _ _ _ _ (h2.trans h)⟩
theorem wrap1 {lv:Int} (h0:0≤lv) (h1:lv≤100):IntKind.i64.wrap (lv + 1)=lv + 1:=by simp [IntKind.wrap,IntKind.bits,IntKind.signed];omega
theorem ObjO.nil_or {S:Nat→Prop} {w:World} {p:PO} {v:Value} (h:ObjO S w p v):(p=.null∧v=.nilIface)∨(p≠.null∧∃ t u,v=.iface t u):=by
  cases p<;>simp only [ObjO] at h
  case null=>exact .inl ⟨rfl,h⟩
  case arr=>obtain ⟨_,sl,c,h,_⟩:=h;exact .inr ⟨by simp,_,_,h⟩
  case dict=>obtain ⟨_,b,c,h,_⟩:=h;exact .inr ⟨by simp,_,_,h⟩
  case lit=>exact .inr ⟨by simp,_,_,h.2⟩
  case hexl=>exact .inr ⟨by simp,_,_,h.2⟩
  case name=>exact .inr ⟨by simp,_,_,h.2⟩
  all_goals exact .inr ⟨by simp,_,_,h⟩
def DicK (pf:By→Nat) (nn:Nat→Prop) (n:Nat) (w wr:World) (res:List By × List PV) (r:By) (g:Nat):Prop :=
  ∃ la m ks acc pk ps vals S,LineAt wr (w.heap.size + 1) la∧passM false la false=(la,false)∧rdDict (rdV pf n) m la false ks acc=some (res,r,false)∧DictAt wr (w.heap.size + 2) pk vals∧ObjOs S wr ps vals∧(∀ k,S k→w.heap.size + 3≤k∧k < wr.heap.size)∧Corr nn (n + 1) (.dict pk ps) (.dict ks acc)∧w.grownBy wr none∧ks.length + la.length≤100000∧g=la.length∧wr.heap[w.heap.size]?=some (.cells #[] 99 (0,0))∧(∀ k∈pk,k.length≤1000000)
set_option maxRecDepth 100000 in
set_option maxHeartbeats 40000000 in
theorem keys_any (pf:By→Nat) (nn:Nat→Prop) (W0 w:World) (hE:Env W0 w) (hI:InitP W0) (n:Nat) (hC:ObjC pf nn W0 n) (b:Nat) (l:By) (hL:LineAt w b l) (hl:l.length≤100000) (hW0:W0.heap.size≤b) (lv:Int) (hlv:0≤lv) (hlv2:lv + n + 1≤100)
    (m:Nat) (res:List By × List PV) (r:By) (hp:passM false l false=(l,false)) (h:rdDict (rdV pf n) m l false [] []=some (res,r,false)) :
    Calls Tryz.prog 191 #[.agg #[],.pointer (some ⟨b,0,none⟩),.int .i64 lv,.int .i64 100,.bool false] w fun e w' =>
      ∃ pk ps vals S db,e=.returned (.tuple #[.map (some db),.nilIface])∧DictAt w' db pk vals∧w.heap.size≤db∧ObjOs S w' ps vals∧(∀ k,S k→w.heap.size≤k∧k < w'.heap.size)∧Corr nn (n + 1) (.dict pk ps) (.dict res.1 res.2)∧LineAt w' b (62::62::r)∧w.grownBy w' (some b)∧KeysOk pk:=by
  obtain ⟨c0,f0⟩:=hL.cell
  have hbw:=hL.lt
  have HL:=Lib.hid hL
  have HE:=Lib.hid hE
  have HI:=Lib.hid hI
  have HC:=Lib.hid hC
  have Hp:=Lib.hid hp
  have Hh:=Lib.hid h
  clear hL hE hI hC hp h
  go_enter Tryz.func191,Tryz.ntmps191
  go_wp2_with fail
  refine (new220_any _).mono ?_
  rintro e w1 ⟨rfl,hw1⟩
  subst w1
  go_wp2_with fail
  have hW:LineAt (((w.alloc (Obj.cells #[] 99)).alloc (Obj.cells #[Value.string (bs l)] 9)).alloc (Obj.map #[] 0)) (w.heap.size + 1) l∧(((w.alloc (Obj.cells #[] 99)).alloc (Obj.cells #[Value.string (bs l)] 9)).alloc (Obj.map #[] 0)).heap[w.heap.size]?=some (.cells #[] 99 (0,0)):=by
    obtain ⟨a0,a1,a2,a3⟩:=alloc3 w (Obj.cells #[] 99) (Obj.cells #[Value.string (bs l)] 9) (Obj.map #[] 0)
    exact ⟨a1,a0⟩
  have hDA:DictAt (((w.alloc (Obj.cells #[] 99)).alloc (Obj.cells #[Value.string (bs l)] 9)).alloc (Obj.map #[] 0)) (w.heap.size + 2) [] []:=by
    have:=DictAt.new ((w.alloc (Obj.cells #[] 99)).alloc (Obj.cells #[Value.string (bs l)] 9))
    simpa using this
  go_loopg [] l.length (fun g wr=>DicK pf nn n w wr res r g)
  case atStart =>
    exact ⟨l,m,[],[],[],[],[],fun _=>False,hW.1,Hp.out,Hh.out,hDA,rfl,fun k hk=>hk.elim,Corr.dnil,(by repeat (first | with_reducible exact World.grownBy.refl w none | with_reducible apply gr_alloc | with_reducible apply gr_drewN | with_reducible apply gr_drew | with_reducible apply gr_set | ((with_reducible refine gr_setM ?_ ?_ _ _);rotate_left;(first | omega | (simp;omega))))),by simpa using hl,rfl,hW.2,by simp⟩
  case round =>
    clear hW hDA c0 f0
    obtain ⟨la,m2,ks,acc,pk,ps,vals,S,hL,hpl,hd,hDA,hO,hS,hCo,hG,hlen,hg,hbx,hpks⟩:=hrel
    have Hpks:=Lib.hid hpks
    clear hpks
    obtain ⟨c1,f1⟩:=hL.cell
    obtain ⟨m',la',hm',hpl',hcase⟩:=rdDict_inv (rdV_odd pf n) hd
    rw [hpl] at hpl'
    injection hpl' with hpl' _
    subst hpl'
    rcases hcase with ⟨t,rfl,rfl,rfl⟩ | ⟨l2,k,x,l3,rfl,hk,h35,hkk,hwo,hv,hrest⟩
    · have hds:=fun w=>dstr_any (62::62::r) true (by simp) (by simp [List.isPrefixOf]) w
      have HL1:=Lib.hid hL
      have HDA:=Lib.hid hDA
      have HO:=Lib.hid hO
      have HS:=Lib.hid hS
      have HCo:=Lib.hid hCo
      have HG:=Lib.hid hG
      have Hlen:=Lib.hid hlen
      clear hL hpl hd hDA hO hS hCo hG hlen hg
      go_wp2_with fail
      refine (hds _).mono ?_
      rintro e w2 ⟨rfl,hw2⟩
      subst w2
      have hL0:=HL.out.keep HG.out (by simp)
      obtain ⟨c0,f0⟩:=hL0.cell
      have HL0:=Lib.hid hL0
      clear hL0
      go_wp2_with fail
      go_ret2
      have hset:=gr_set (World.grownBy.refl wr (some b)) 0 (.string (bs (62::62::r)))
      have hdl:=HDA.out.lt
      refine ⟨pk,ps,vals,S,w.heap.size + 2,rfl,HDA.out.keep (hset.block _ hdl (by simp;omega)),by omega,ObjOs.keep (fun k hk=>⟨hk,hset.block k (HS.out k hk).2 (by have:=HS.out k hk;simp;omega)⟩) _ _ HO.out,fun k hk=>?_,HCo.out,HL0.out.set _,gr_set (HG.out.but (some b)) _ _,by have:=HCo.out.dkeys.2;have:=Hlen.out;omega,Hpks.out⟩
      have:=HS.out k hk
      have h2:=hset.size
      exact ⟨by omega,by omega⟩
    · have hds:=fun w=>dstr_any (47::l2) false (by simp) (by simp [List.isPrefixOf]) w
      have HL1:=Lib.hid hL
      have HDA:=Lib.hid hDA
      have HO:=Lib.hid hO
      have HS:=Lib.hid hS
      have HCo:=Lib.hid hCo
      have HG:=Lib.hid hG
      have Hk:=Lib.hid hk
      have Hkk:=Lib.hid hkk
      have Hwo:=Lib.hid hwo
      have Hv:=Lib.hid hv
      have Hrest:=Lib.hid hrest
      have Hlen:=Lib.hid hlen
      have Hg:=Lib.hid hg
      clear hL hpl hd hDA hO hS hCo hG hlen hg hk h35 hkk hwo hv hrest
      go_wp2_with fail
      refine (hds _).mono ?_
      rintro e w2 ⟨rfl,hw2⟩
      subst w2
      go_wp2_with fail
      refine (err_any _).mono ?_
      rintro e w2 ⟨rfl,hg2⟩
      have hG2:=HG.out.trans hg2
      have hL2:=HL1.out.keep hg2 (by simp)
      have HG2:=Lib.hid hG2
      have hE2:=HE.out.grown0 hG2
      have HL2:=Lib.hid hL2
      have HE2:=Lib.hid hE2
      have Hg2:=Lib.hid hg2
      have hlen2:ks.length + l2.length + 1≤100000:=by have:=Hlen.out;simp at this;omega
      have Hlen2:=Lib.hid hlen2
      clear hG2 hL2 hE2 hg2 c1 f1 hlen2
      go_wp2_with fail
      refine (name100_any W0 HI.out w2 HE2.out (w.heap.size + 1) l2 k HL2.out Hwo.out Hk.out (by have:=Hlen2.out;omega) (by have:=HE.out.1;omega)).mono ?_
      rintro e w3 ⟨⟨pb,rfl,hpb,hpbs⟩,hL3,hg3⟩
      have hp0:w3.cell? ⟨pb,0,none⟩=some (.string (bs k)):=by simp [World.cell?,hpb]
      have HL3:=Lib.hid hL3
      have Hg3:=Lib.hid hg3
      have Hpb:=Lib.hid (And.intro hpb hpbs)
      obtain ⟨c3,f3⟩:=hL3.cell
      clear hL3 hg3 hpb hpbs
      go_wp2_with fail
      obtain ⟨lb,hlb1,hlb2,hlb3,hlb4,hlb5,hlb6⟩:=rdV_lb Hv.out
      have hwr:=wordR_len l2
      refine (trim_any2 (wordR l2) lb w3 hlb1 hlb4).mono ?_
      rintro e w4 ⟨⟨q,hq,rfl⟩,hb4⟩
      obtain rfl:q=lb:=by rcases hq with h | ⟨h,_⟩;exact h;exact absurd h hlb3
      have hg4:=gr_of_below hb4
      have hL4:=HL3.out.keep hg4 (by simp)
      obtain ⟨c4,f4⟩:=hL4.cell
      have HL4:=Lib.hid hL4
      have Hg4:=Lib.hid (Hg3.out.trans (hg4.but (some (w.heap.size + 1))))
      have Hpb4:=Lib.hid (show w4.heap[pb]?=some (.cells #[.string (bs k)] 71 (0,0)) from (hg4.block pb (Array.getElem?_eq_some_iff.1 Hpb.out.1).1 (by simp)).trans Hpb.out.1)
      have hq0:((((bs q).size:Nat):Int) == 0)=false:=by
        rw [bs_size]
        have:=List.length_pos_iff.2 hlb3
        simp only [beq_eq_false_iff_ne];omega
      have Hlb:=Lib.hid (And.intro hlb2 (And.intro hlb5 hlb6))
      have hq1:q.length≤100000:=by have:=Hlen2.out;omega
      have hl31:l3.length + 1≤l2.length:=by omega
      have Hq1:=Lib.hid (And.intro hq1 hl31)
      have hlvw:=wrap1 hlv (by omega)
      clear hlb1 hlb2 hlb3 hlb4 hlb5 hlb6 hwr hq hb4 hg4 hL4 c3 f3 hp0 hq1 hl31
      go_wp2_with fail
      obtain ⟨w5,hw5⟩:∃ w5,w5=w4.setCell ⟨w.heap.size + 1,0,none⟩ (.string (bs q)):=⟨_,rfl⟩
      have hL5:=HL4.out.set q
      have hg5:=gr_set Hg4.out 0 (.string (bs q))
      have hpb5:w5.heap[pb]?=some (.cells #[.string (bs k)] 71 (0,0)):=by
        rw [hw5]
        exact ((gr_set (World.grownBy.refl w4 (some (w.heap.size + 1))) 0 (.string (bs q))).block pb (Array.getElem?_eq_some_iff.1 Hpb4.out).1 (by have:=Hpb.out.2;have:=HL2.out.lt;simp;omega)).trans Hpb4.out
      rw [←hw5] at hL5 hg5 ⊢
      have HL5:=Lib.hid hL5
      have Hg5:=Lib.hid hg5
      have Hpb5:=Lib.hid hpb5
      have HE5:=Lib.hid (HE2.out.grown hg5 (fun k hk=>by injection hk with hk;have:=HE.out.1;omega))
      obtain ⟨c5,f5⟩:=hL5.cell
      clear hw5 hL5 hg5 hpb5 c4 f4
      go_wp2_with fail
      refine (HC.out w5 (w.heap.size + 1) q x l3 (lv + 1) HE5.out (by have:=HE.out.1;omega) HL5.out Hq1.out.1 (by omega) (by omega) Hlb.out.1).mono ?_
      rintro e w6 ⟨po,v,S2,rfl,hO6,hS6,hC6,hL6,hg6⟩
      obtain ⟨m2',la3,hm3,hp3,hcs3⟩:=rdDict_inv (rdV_odd pf n) Hrest.out
      have h3:la3≠[]∧∀ c∈la3.head?,isPlain (c.toNat:Int)=true:=by
        rcases hcs3 with ⟨t,rfl,_⟩ | ⟨l4,k4,x4,l5,rfl,_⟩
        · exact ⟨by simp,fun c hc=>by simp at hc;subst hc;decide⟩
        · exact ⟨by simp,fun c hc=>by simp at hc;subst hc;decide⟩
      have h3l:=passM_len false l3 false
      rw [hp3] at h3l
      have H3:=Lib.hid (show passM false l3 false=(la3,false)∧la3≠[]∧(∀ c∈la3.head?,isPlain (c.toNat:Int)=true)∧la3.length≤l3.length∧rdDict (rdV pf n) m' la3 false (ks ++ [k]) (acc ++ [x])=some (res,r,false) from ⟨hp3,h3.1,h3.2,h3l,(rdDict_pass hp3).trans Hrest.out⟩)
      have h2l:=rdDict_two (fun l o x r o' h=>rdV_len pf n l o x r o' h) Hrest.out (rdV_odd pf n)
      have hz2:¬(bs l3).size < 2:=by rw [bs_size];omega
      have hG6:=(Hg2.out.but (some (w.heap.size + 1))).trans (Hg5.out.trans hg6)
      have hbx6:=(hG6.block _ (Array.getElem?_eq_some_iff.1 hbx).1 (by simp)).trans hbx
      have HDA6:=Lib.hid (HDA.out.keep (hG6.block _ HDA.out.lt (by simp)))
      have HO6:=Lib.hid (ObjOs.keep (S':=S) (fun j hj=>⟨hj,hG6.block j (HS.out j hj).2 (by have:=HS.out j hj;simp;omega)⟩) _ _ HO.out)
      have hpb6:w6.cell? ⟨pb,0,none⟩=some (.string (bs k)):=by
        have:=(hg6.block pb (Array.getElem?_eq_some_iff.1 Hpb5.out).1 (by have:=Hpb.out.2;have:=HL2.out.lt;simp;omega)).trans Hpb5.out
        simp [World.cell?,this]
      have HOv:=Lib.hid hO6
      have HSv:=Lib.hid hS6
      have HCv:=Lib.hid hC6
      have HL6:=Lib.hid hL6
      have HG6:=Lib.hid hG6
      have Hs5:=Lib.hid (show wr.heap.size≤w5.heap.size from Nat.le_trans Hg2.out.size Hg5.out.size)
      have Hs6:=Lib.hid hG6.size
      have Hbx6:=Lib.hid hbx6
      have hno:=hO6.nil_or
      clear hm3 hp3 hcs3 h3 h3l h2l hG6 hbx6 hO6 hS6 hC6 hL6 hg6 c5 f5 hq0 hbx hds
      rcases hno with ⟨hpo,rfl⟩ | ⟨hpo,ty,u,rfl⟩
      · have HL7:=HL6
        have HDA7:=HDA6
        have HO7:=HO6
        have HS7:=Lib.hid (show ∀ j,S j→w.heap.size + 3≤j∧j < w6.heap.size from fun j hj=>⟨(HS.out j hj).1,Nat.lt_of_lt_of_le (HS.out j hj).2 Hs6.out⟩)
        have HC7:=Lib.hid (HCo.out.dnull Hkk.out (HCv.out.isNull.2 hpo))
        have HG7:=Lib.hid (show w.grownBy w6 none from gr_noneThen HG.out HG6.out (fun j hj=>by injection hj with hj;omega))
        have HB7:=Hbx6
        have HK7:=Hpks
        clear hpo
        obtain ⟨c7,f7⟩:=HL7.out.cell
        go_wp2_with fail
        refine (trim_any2 l3 la3 _ H3.out.1 H3.out.2.2.1).mono ?_
        rintro e w8 ⟨⟨q8,hq8,rfl⟩,hb8⟩
        obtain rfl:q8=la3:=by rcases hq8 with h | ⟨h,_⟩;exact h;exact absurd h H3.out.2.1
        have hg8:=gr_of_below hb8
        have hL8:=HL7.out.keep hg8 (by simp)
        obtain ⟨c8,f8⟩:=hL8.cell
        have HL8:=Lib.hid hL8
        have Hg8:=Lib.hid hg8
        have hz8:((((bs q8).size:Nat):Int) == 0)=false:=by
          rw [bs_size]
          have:=List.length_pos_iff.2 H3.out.2.1
          simp only [beq_eq_false_iff_ne];omega
        clear hg8 hb8 hL8 hq8 c7 f7
        go_wp2_with fail
        go_roundg q8.length
        case measure=>rw [Hg.out];have:=H3.out.2.2.2.1;have:=Hq1.out.2;simp;omega
        case rel =>
          have hst:=gr_set (Hg8.out.but (some (w.heap.size + 1))) 0 (.string (bs q8))
          refine ⟨q8,m',ks ++ [k],acc ++ [x],pk,ps,vals,S,HL8.out.set q8,passM_fix H3.out.1,H3.out.2.2.2.2,HDA7.out.keep (hst.block _ HDA7.out.lt (by simp)),ObjOs.keep (fun j hj=>⟨hj,hst.block j (HS7.out j hj).2 (by have:=HS7.out j hj;simp;omega)⟩) _ _ HO7.out,fun j hj=>?_,HC7.out,gr_noneThen HG7.out hst (fun j hj=>by injection hj with hj;omega),?_,rfl,(hst.block _ (Array.getElem?_eq_some_iff.1 HB7.out).1 (by simp)).trans HB7.out,HK7.out⟩
          · have:=HS7.out j hj
            have h9:=hst.size
            exact ⟨by omega,by omega⟩
          · have:=H3.out.2.2.2.1;have:=Hq1.out.2;have:=Hlen2.out;simp;omega
      · have hkl:k.length≤1000000:=by
          have h1:=nameB_len2 _ _ _ Hk.out
          have h2:(wordT l2).length≤l2.length:=(List.takeWhile_sublist _).length_le
          have:=Hlen2.out
          simp at h1;omega
        have hpk:=HCo.out.dkeys
        have hpkl:pk.length≤1000000:=by have:=hpk.2;have:=Hlen2.out;omega
        have hpkn:k∉pk:=fun h=>Hkk.out (hpk.1 k h)
        have hins:=ins222_any w6 (w.heap.size + 1 + 1) pk vals k (.iface ty u) HDA6.out hpkn hkl hpkl
        have Hpo:=Lib.hid hpo
        have HK7:=Lib.hid (show ∀ k'∈pk ++ [k],k'.length≤1000000 from fun k' hk'=>by rcases List.mem_append.1 hk' with h | h;exact Hpks.out k' h;simp at h;subst h;exact hkl)
        clear hkl hpk hpkl hpkn hpo
        go_wp2_with fail
        refine hins.mono ?_
        rintro e w7 ⟨rfl,hDA7,hg7⟩
        have HL7:=Lib.hid (HL6.out.keep hg7 (by simp))
        have HDA7:=Lib.hid hDA7
        have hlt6:=Hs6.out
        have HO7:=Lib.hid (ObjOs.append (ObjOs.one (ObjO.keep (S':=fun j=>S j∨S2 j) (fun j hj=>⟨.inr hj,hg7.block j (HSv.out j hj).2 (by have:=HSv.out j hj;have:=Hs5.out;have:=HDA.out.lt;simp;omega)⟩) _ _ HOv.out)) _ _ (ObjOs.keep (S':=fun j=>S j∨S2 j) (fun j hj=>⟨.inl hj,hg7.block j (by have:=(HS.out j hj).2;omega) (by have:=HS.out j hj;simp;omega)⟩) _ _ HO6.out))
        have HS7:=Lib.hid (show ∀ j,(S j∨S2 j)→w.heap.size + 3≤j∧j < w7.heap.size from fun j hj=>by
          have h7:=hg7.size
          rcases hj with hj | hj
          · have:=HS.out j hj;omega
          · have:=HSv.out j hj;have:=Hs5.out;have:=HDA.out.lt;omega)
        have hxn:x.isNull=false:=by
          cases hx:x.isNull with
          | false=>rfl
          | true=>exact absurd (HCv.out.isNull.1 hx) Hpo.out
        have HC7:=Lib.hid (HCo.out.dpush Hkk.out hxn HCv.out)
        have hG6:w.grownBy w6 none:=gr_noneThen HG.out HG6.out (fun j hj=>by injection hj with hj;omega)
        have HG7:=Lib.hid (show w.grownBy w7 none from gr_noneThen hG6 hg7 (fun j hj=>by injection hj with hj;omega))
        have HB7:=Lib.hid ((hg7.block _ (Array.getElem?_eq_some_iff.1 Hbx6.out).1 (by simp;omega)).trans Hbx6.out)
        clear hDA7 hg7 hins hxn hG6 hlt6 hpb6
        obtain ⟨c7,f7⟩:=HL7.out.cell
        go_wp2_with fail
        refine (trim_any2 l3 la3 _ H3.out.1 H3.out.2.2.1).mono ?_
        rintro e w8 ⟨⟨q8,hq8,rfl⟩,hb8⟩
        obtain rfl:q8=la3:=by rcases hq8 with h | ⟨h,_⟩;exact h;exact absurd h H3.out.2.1
        have hg8:=gr_of_below hb8
        have hL8:=HL7.out.keep hg8 (by simp)
        obtain ⟨c8,f8⟩:=hL8.cell
        have HL8:=Lib.hid hL8
        have Hg8:=Lib.hid hg8
        have hz8:((((bs q8).size:Nat):Int) == 0)=false:=by
          rw [bs_size]
          have:=List.length_pos_iff.2 H3.out.2.1
          simp only [beq_eq_false_iff_ne];omega
        clear hg8 hb8 hL8 hq8 c7 f7
        go_wp2_with fail
        go_roundg q8.length
        case measure=>rw [Hg.out];have:=H3.out.2.2.2.1;have:=Hq1.out.2;simp;omega
        case rel =>
          have hst:=gr_set (Hg8.out.but (some (w.heap.size + 1))) 0 (.string (bs q8))
          refine ⟨q8,m',ks ++ [k],acc ++ [x],pk ++ [k],ps ++ [po],vals ++ [.iface ty u],fun j=>S j∨S2 j,HL8.out.set q8,passM_fix H3.out.1,H3.out.2.2.2.2,HDA7.out.keep (hst.block _ HDA7.out.lt (by simp)),ObjOs.keep (fun j hj=>⟨hj,hst.block j (HS7.out j hj).2 (by have:=HS7.out j hj;simp;omega)⟩) _ _ HO7.out,fun j hj=>?_,HC7.out,gr_noneThen HG7.out hst (fun j hj=>by injection hj with hj;omega),?_,rfl,(hst.block _ (Array.getElem?_eq_some_iff.1 HB7.out).1 (by simp)).trans HB7.out,HK7.out⟩
          · have:=HS7.out j hj
            have h9:=hst.size
            exact ⟨by omega,by omega⟩
          · have:=H3.out.2.2.2.1;have:=Hq1.out.2;have:=Hlen2.out;simp;omega
end Go.Proofs.YtfkecmlmnhbmoaaGreatDoor
