/- Parts G21 G22 G23 G24 G25 J7. -/
import Derived.Sort.KeysCollected
import Derived.Test.YtfkecmlmnhbmoaaGreatDoorX26
set_option linter.unusedVariables false
set_option linter.unusedSimpArgs false
set_option maxRecDepth 100000
set_option maxHeartbeats 40000000
namespace Go.Proofs.YtfkecmlmnhbmoaaGreatDoor
open Go Go.RowKit Go.Maps
def RV:Value→Option (DataW Value×List MemPlace):=fun v=>some (.held v,[])
theorem a4h:Keyed Tryz.prog 9:=Maps.string_keyed (by kernel_rfl)
theorem key9 (k:By)(hk:k.length≤maxLen):keyOf Tryz.prog 9 (.string (bs k))=some (.string k):=by
 have hu:Tryz.prog.underlying 9=some .string:=by kernel_rfl
 have h2:(⟨k.toArray⟩:ByteArray).size≤maxLen:=by have:=a0f k;unfold bs at this;omega
 simp[keyOf,hu,mapKey,h2,bs]
def a1y (w:World)(b:Nat)(keys:List By)(vals:List Value):Prop :=
 keys.length=vals.length∧keys.Nodup∧∃D,w.ownsMap Tryz.prog 9 RV b keys.length D∧(∀k:By,Maps.has D (.string k)=decide (k∈keys))∧∀(i:Nat) k v,keys[i]?=some k→vals[i]?=some v→∀z,D.atKey (.string k) z=.held v
theorem a1y.new (w:World):a1y (w.alloc (.map #[] 0)) w.heap.size [] [] :=
 ⟨rfl,List.nodup_nil,_,World.ownsMap_made w _ _ _,by intro k;simp[Maps.has],by intro i k v h;simp at h⟩
theorem a1y.lt {w:World}{b:Nat}{keys:List By}{vals:List Value}(h:a1y w b keys vals):b<w.heap.size:=by
 obtain⟨_,_,D,h,_⟩:=h;exact h.lt
theorem a1y.keep {w w':World}{b:Nat}{keys:List By}{vals:List Value}(h:a1y w b keys vals)(hb:w'.heap[b]?=w.heap[b]?):a1y w' b keys vals:=by
 obtain⟨h1,h2,D,⟨es,clock,h3,h4⟩,h5⟩:=h;exact⟨h1,h2,D,⟨es,clock,hb.trans h3,h4⟩,h5⟩
theorem a1y.put {w':World}{b:Nat}{keys:List By}{vals:List Value}{k:By}{v:Value}{D:DataW Value}(h1:keys.length=vals.length)(h2:keys.Nodup)(hT:Maps.IsMap D)(h3:∀k:By,Maps.has D (.string k)=decide (k∈keys))
  (h4:∀(i:Nat) k v,keys[i]?=some k→vals[i]?=some v→∀z,D.atKey (.string k) z=.held v)(hk:k∉keys)(hown:w'.ownsMap Tryz.prog 9 RV b (keys.length+1) (D.put (.string k) (.held v))):a1y w' b (keys++[k]) (vals++[v]):=by
 refine⟨by simp[h1],?_,_,by simpa using hown,?_,?_⟩
 ·rw[List.nodup_append]
  exact⟨h2,by simp,fun a ha c hc e=>by simp at hc;subst hc;subst e;exact hk ha⟩
 ·intro q
  by_cases hq:q=k
  ·subst hq
   rw[Maps.has_put_same hT (show WideAt.IsKeyLit (.string q) from trivial)];simp
  ·rw[Maps.has_put_other (by simpa using hq),h3]
   simp[hq]
 ·intro i q u hq hu z
  by_cases hi:i<keys.length
  ·rw[List.getElem?_append_left hi]at hq
   rw[List.getElem?_append_left (by omega)]at hu;have hqk:q≠k:=by rintro rfl;exact hk (List.mem_of_getElem? hq)
   rw[Maps.atKey_put_other (by simpa using hqk)];exact h4 i q u hq hu z
  ·rw[List.getElem?_append_right (by omega)]at hq
   rw[List.getElem?_append_right (by omega)]at hu
   have hi0:i-keys.length=0:=by
    by_cases h0:i-keys.length=0
    ·exact h0
    ·obtain⟨j,hj⟩:∃j,i-keys.length=j+1:=⟨i-keys.length-1,by omega⟩
     rw[hj]at hq;simp at hq
   have hi1:i-vals.length=0:=by omega
   rw[hi0]at hq;rw[hi1]at hu;simp at hq hu;subst hq;subst hu
   exact Maps.atKey_put_same hT (show WideAt.IsKeyLit (.string k) from trivial) _ _
def a3O (keys:List By):Prop:=keys.length≤1000000∧∀k∈keys,k.length≤1000000
mutual
def ObjO (S:Nat→Prop)(w:World):PO→Value→Prop
 | .null,v=>v=.nilIface
 | .bool x,v=>v=.iface 66 (.bool x)
 | .int n,v=>v=.iface 67 (.int .i64 n)
 | .real x,v=>v=.iface 68 (.float .f64 x)
 | .lit s,v=>s.length≤319999∧v=.iface 69 (.string (bs s))
 | .hexl s,v=>s.length≤319999∧v=.iface 70 (.string (bs s))
 | .name s,v=>s.length≤319999∧v=.iface 71 (.string (bs s))
 | .ref n g,v=>v=.iface 73 (.agg #[.int .i64 n,.int .i64 g])
 | .arr kids,v=>kids.length≤1000000∧∃sl cells,v=.iface 77 sl∧SlAt S w sl 1 kids.length cells∧a0J S w kids cells
 | .dict keys kids,v=>a3O keys∧∃b vals,v=.iface 81 (.map (some b))∧S b∧a1y w b keys vals∧a0J S w kids vals
def a0J (S:Nat→Prop)(w:World):List PO→List Value→Prop
 | [],c=>c=[]
 | p::ps,c=>∃v rest,c=v::rest∧ObjO S w p v∧a0J S w ps rest
end
mutual
theorem ObjO.keep {S S':Nat→Prop}{w w':World}(hS:∀k,S k→S' k∧w'.heap[k]?=w.heap[k]?):∀(p:PO) (v:Value),ObjO S w p v→ObjO S' w' p v
 | .arr kids,v,h=>by
  simp only[ObjO]at h⊢;obtain⟨h0,sl,cells,h1,h2,h3⟩:=h;exact⟨h0,sl,cells,h1,h2.keep hS,a0J.keep hS kids cells h3⟩
 | .dict keys kids,v,h=>by
  simp only[ObjO]at h⊢;obtain⟨h0,b,vals,h1,h2,h3,h4⟩:=h;exact⟨h0,b,vals,h1,(hS b h2).1,h3.keep (hS b h2).2,a0J.keep hS kids vals h4⟩
 | .null,v,h=>by simpa only [ObjO] using h
 | .bool _,v,h=>by simpa only [ObjO] using h
 | .int _,v,h=>by simpa only [ObjO] using h
 | .real _,v,h=>by simpa only [ObjO] using h
 | .lit _,v,h=>by simpa only [ObjO] using h
 | .hexl _,v,h=>by simpa only [ObjO] using h
 | .name _,v,h=>by simpa only [ObjO] using h
 | .ref _ _,v,h=>by simpa only [ObjO] using h
theorem a0J.keep {S S':Nat→Prop}{w w':World}(hS:∀k,S k→S' k∧w'.heap[k]?=w.heap[k]?):∀(ps:List PO) (c:List Value),a0J S w ps c→a0J S' w' ps c
 | [],c,h=>by simpa only [a0J] using h
 | p::ps,c,h=>by
  simp only[a0J]at h⊢;obtain⟨v,rest,h1,h2,h3⟩:=h;exact⟨v,rest,h1,ObjO.keep hS p v h2,a0J.keep hS ps rest h3⟩
end
theorem a0J.append {S:Nat→Prop}{w:World}{qs:List PO}{d:List Value}(hy:a0J S w qs d):∀(ps:List PO) (c:List Value),a0J S w ps c→a0J S w (ps++qs) (c++d)
 | [],c,h=>by simp only[a0J]at h;subst h;simpa using hy
 | p::ps,c,h=>by
  simp only[a0J,List.cons_append]at h⊢;obtain⟨v,rest,h1,h2,h3⟩:=h;exact⟨v,rest++d,by rw[h1];rfl,h2,a0J.append hy ps rest h3⟩
theorem a0J.one {S:Nat→Prop}{w:World}{p:PO}{v:Value}(h:ObjO S w p v):a0J S w [p] [v]:=by
 simp only[a0J];exact⟨v,[],rfl,h,rfl⟩
theorem a0J.get {S:Nat→Prop}{w:World} : ∀(ps:List PO) (c:List Value),a0J S w ps c→∀(i:Nat) p,ps[i]?=some p→∃v,c[i]?=some v∧ObjO S w p v
 | [],c,h,i,p,hi=>by simp at hi
 | q::ps,c,h,i,p,hi=>by
  simp only[a0J]at h;obtain⟨v,rest,h1,h2,h3⟩:=h;subst h1
  cases i with
  | zero=>simp at hi;subst hi;exact⟨v,by simp,h2⟩
  | succ i=>exact a0J.get ps rest h3 i p (by simpa using hi)
def a0E (nn:NQ)(n:Nat)(w w':World)(b:Nat)(x:PV)(r:By)(e:Ending):Prop :=
 ∃po v S,e=.returned (.tuple #[v,.nilIface])∧ObjO S w' po v∧(∀k,S k→w.heap.size≤k∧k<w'.heap.size)∧(Corr nn.1 n po x∧nn.2 po)∧a0v w' b r∧w.grownBy w' (some b)
theorem a0E.plain {nn:NQ}{n:Nat}{w w':World}{b:Nat}{x:PV}{r:By}{e:Ending}(po:PO)(v:Value)(he:e=.returned (.tuple #[v,.nilIface]))(hO:∀S w,ObjO S w po v)(hC:Corr nn.1 n po x)(hQ:nn.2 po)(hL:a0v w' b r)(hg:w.grownBy w' (some b)):a0E nn n w w' b x r e :=
 ⟨po,v,fun _=>False,he,hO _ _,fun k hk=>hk.elim,⟨hC,hQ⟩,hL,hg⟩
theorem b0G (pf:By→Nat)(nn:NQ)(hnn:∀t,a1q t→nn.1 (pf t))(hQ:∀po:PO,po.atom=true→nn.2 po)(W0 w:World)(ea eb:Addr)(ca cb:Array Value)(hI:b0k W0 ea eb ca cb)(hpf:PFC pf W0)(hE:Env W0 w)(b:Nat)(l:By)(hL:a0v w b l)(hl:l.length≤1000000)(hW0:W0.heap.size≤b)
  (x:PV)(r:By)(h1:a0c l≠a3j)(h2:a0c l≠a1Z)(h3:a0c l≠a3x)(h:a1p pf l false=some (x,r,false))(n:Nat) :
  Calls Tryz.prog 105 #[.pointer (some ⟨b,0,none⟩)] w fun e w'=>a0E nn (n+1) w w' b x r e:=by
 have ho:=(a4q h).2;simp only[a1p,if_neg h1,if_neg h2,if_neg h3]at h
 split at h
 ·simp at h
 ·rename_i h0
  have h0:(numF pf (a0c l)).2.2.2=0:=by simpa using h0
  have hne:a0c l≠[]:=by intro e;rw[e,b7i]at h0;simp at h0
  split at h
  ·rename_i hk2
   simp at h;obtain⟨rfl,rfl,_⟩:=h;have hk3:(numF pf (a0c l)).1=3:=by rcases a7g h0 with e|e;exact absurd e hk2;exact e
   obtain⟨_,hok,he⟩:=a3D h0 hk3;refine(a9a pf W0 w ea eb ca cb hI hpf hE b l hL hl ho hne h0 hk3 hW0).mono ?_;rintro e w'⟨rfl,hL',hg⟩;exact a0E.plain (.real (pf (a0c l))) _ rfl (fun _ _=>by simp only[ObjO]) (by simp only[Corr];rw[he];exact⟨rfl,hnn _ hok⟩) (hQ _ rfl) hL' hg
  ·rename_i hk2
   have hk2:(numF pf (a0c l)).1=2:=by simpa using hk2
   obtain⟨hat,hlo,hhi⟩:=a7T h0 hk2
   have hn0:∀c∈(a0c l).head?,a0F (c.toNat:Int)=true→0≤(numF pf (a0c l)).2.1:=by
    intro c hc hd;generalize (numF pf (a0c l)).2.1=v at hat
    cases hw:a0c l with
    | nil=>rw[hw]at hc;simp at hc
    | cons d t =>
     rw[hw]at hc hat;simp at hc;subst hc
     have hd:=(a3l d).1 hd;simp only[Lib.atoiAll]at hat;rw[if_neg (by omega)]at hat;have h45:¬d.toNat=45:=by omega
     cases hp:Lib.parseMag (d::t) with
     | range=>rw[hp]at hat;simp at hat
     | ok u =>
      rw[hp]at hat;simp only[h45]at hat
      split at hat
      ·simp at hat
      ·split at hat
       ·simp at hat
       ·simp at hat;omega
     | _=>rw[hp]at hat;simp at hat
   rw[show a0t l false=false from ho]at h;obtain⟨la,c,hS⟩:=RefS.of h hn0;refine(b0x pf W0 w hI.toa3M hE b l hL hl ho hne _ (by rw[h0];decide) hat x r la c hS hW0).mono ?_;rintro e w'⟨hx,hL',hg⟩;rcases hx with⟨rfl,rfl⟩|⟨g,rfl,rfl,h4,h5,h6⟩
   ·exact a0E.plain (.int (numF pf (a0c l)).2.1) _ rfl (fun _ _=>by simp only[ObjO]) (by simp only[Corr];exact⟨by trivial,hlo,hhi⟩) (hQ _ rfl) hL' hg
   ·exact a0E.plain (.ref (numF pf (a0c l)).2.1 g) _ rfl (fun _ _=>by simp only[ObjO]) (by simp only[Corr];exact⟨by trivial,by trivial,h4,hhi,h5,h6⟩) (hQ _ rfl) hL' hg
theorem b3E (w:World):(zeroValue 50).run Tryz.prog w=.ok .nilIface w:=by kernel_rfl
theorem b0E (w:World):Calls Tryz.prog 220 #[] w fun e w'=>e=.returned (.map (some w.heap.size))∧w'=w.alloc (.map #[] 0):=by
 have hmk:=run_makeMap (P:=Tryz.prog) 80 w;go_enter Tryz.func220,Tryz.ntmps220;go_wp2_with fail
 go_ret;exact⟨rfl,rfl⟩
theorem IsMap.of {w:World}{b n:Nat}{D:DataW Value}(h:w.ownsMap Tryz.prog 9 RV b n D):Maps.IsMap D:=by
 obtain⟨es,clock,_,_,_,rfl⟩:=h;exact⟨_,rfl⟩
theorem b0w (w:World)(b:Nat)(keys:List By)(vals:List Value)(k:By)(v:Value)(h:a1y w b keys vals)(hk:k∉keys)(hkl:k.length≤1000000)(hn:keys.length≤1000000) :
  Calls Tryz.prog 222 #[.map (some b),.string (bs k),v,.bool false] w fun e w'=>e=.returned .nilIface∧a1y w' b (keys++[k]) (vals++[v])∧w.grownBy w' (some b):=by
 obtain⟨h1,h2,D,hown,h3,h4⟩:=h;have hT:=IsMap.of hown;have hhas:Maps.has D (.string k)=false:=by rw[h3];simp[hk]
 have hkey:=key9 k (by unfold maxLen;omega);have hu:=Tryz.underlying81;obtain⟨v0,ps,hl,hv⟩:=hown.look_ok a4h hu (b3E w) (zd:=.held .nilIface) (zp:=[]) rfl hkey;rw[hhas]at hl;obtain⟨w1,hm,hown1,hg1⟩:=hown.update a4h hu (key:=.string (bs k)) (val:=v) (by unfold maxLen;omega) hkey rfl;have hd:=a1y.put h1 h2 hT h3 h4 hk hown1;obtain⟨Hd,Hg⟩:=xh2 hd hg1;clear h1 h2 h3 h4 hT hd hg1 hown1 hv;go_enter Tryz.func222,Tryz.ntmps222;go_wp2_with fail
 go_ret;exact⟨rfl,Hd.out,Hg.out⟩
def ObjC (pf:By→Nat)(nn:Nat→Prop)(W0:World)(n:Nat):Prop:=∀(w:World) (b:Nat) (l:By) (x:PV) (r:By) (lv:Int),Env W0 w→W0.heap.size≤b→a0v w b l→l.length≤150000→0≤lv→lv+n≤100→rdV pf n l false=some (x,r,false) →
 Calls Tryz.prog 69 #[.agg #[],.pointer (some ⟨b,0,none⟩),.int .i64 lv,.int .i64 100,.bool false] w fun e w'=>a0E (NS pf nn n l r) n w w' b x r e
theorem a9w (l:By)(v:Bool)(hne:l≠[])(h:([62,62]:By).isPrefixOf l=v)(w:World):Calls Tryz.prog 221 #[.string (bs l)] w fun e w'=>e=.returned (.bool !v)∧w'=w:=by
 have hz:0<(bs l).size:=by rw[a0f];exact List.length_pos_iff.2 hne
 have hpre:=fun w=>a0L l [62,62] v h w;have ecs:(⟨#[62,62]⟩:ByteArray)=bs [62,62]:=rfl;generalize bs l=z at hz hpre⊢;go_enter Tryz.func221,Tryz.ntmps221;go_wp2_with fail
 refine(hpre _).mono ?_;rintro e w1⟨rfl,hw1⟩;subst w1;go_wp2_with fail
 go_ret;exact⟨rfl,rfl⟩
theorem b9E {pf:By→Nat}{n:Nat}{l:By}{x:PV}{r:By}(h:rdV pf n l false=some (x,r,false)):∃la,a0j false l false=(la,false)∧rdV pf n la false=some (x,r,false)∧la≠[]∧(∀c∈la.head?,a0s (c.toNat:Int)=true)∧la.length≤l.length∧r.length<la.length:=by
 cases n with
 | zero=>simp[rdV]at h
 | succ n =>
  obtain⟨_,c,l1,h1,_⟩:=a2M h;have h2:=a9R (pf:=pf) (n:=n+1) h1;have h3:=a0K false l false;rw[h1]at h3;exact⟨_,h1,h2.trans h,(a3t h1 h).1,(a3t h1 h).2,h3,a2z _ _ _ _ _ _ _ (h2.trans h)⟩
theorem c0a {lv:Int}(h0:0≤lv)(h1:lv≤100):IntKind.i64.wrap (lv+1)=lv+1:=by simp[IntKind.wrap,IntKind.bits,IntKind.signed];omega
theorem ObjO.nil_or {S:Nat→Prop}{w:World}{p:PO}{v:Value}(h:ObjO S w p v):(p=.null∧v=.nilIface)∨(p≠.null∧∃t u,v=.iface t u):=by
 cases p<;>simp only[ObjO]at h
 case null=>exact .inl ⟨rfl,h⟩
 case arr=>obtain⟨_,sl,c,h,_⟩:=h;exact .inr ⟨by simp,_,_,h⟩
 case dict=>obtain⟨_,b,c,h,_⟩:=h;exact .inr ⟨by simp,_,_,h⟩
 case lit=>exact .inr ⟨by simp,_,_,h.2⟩
 case hexl=>exact .inr ⟨by simp,_,_,h.2⟩
 case name=>exact .inr ⟨by simp,_,_,h.2⟩
 all_goals exact .inr ⟨by simp,_,_,h⟩
def DicK (pf:By→Nat)(nn:Nat→Prop)(n:Nat)(w wr:World)(l0:By)(res:List By×List PV)(r:By)(g:Nat):Prop :=
 ∃la m ks acc pk ps vals S,a0v wr (w.heap.size+1) la∧a0j false la false=(la,false)∧a0A (rdV pf n) m la false ks acc=some (res,r,false)∧a1y wr (w.heap.size+2) pk vals∧a0J S wr ps vals∧(∀k,S k→w.heap.size+3≤k∧k<wr.heap.size)∧(Corr nn (n+1) (.dict pk ps) (.dict ks acc)∧DSp (SpF pf nn n) l0 pk ps la)∧w.grownBy wr none∧ks.length+la.length≤150000∧g=la.length∧wr.heap[w.heap.size]?=some (.cells #[] 99 (0,0))∧(∀k∈pk,k.length≤1000000)
theorem b4j (pf:By→Nat)(nn:Nat→Prop)(W0 w:World)(hE:Env W0 w)(hI:a3M W0)(n:Nat)(hC:ObjC pf nn W0 n)(b:Nat)(l:By)(hL:a0v w b l)(hl:l.length≤150000)(hW0:W0.heap.size≤b)(lv:Int)(hlv:0≤lv)(hlv2:lv+n+1≤100)
  (m:Nat)(res:List By×List PV)(r:By)(hp:a0j false l false=(l,false))(h:a0A (rdV pf n) m l false [] []=some (res,r,false)) :
  Calls Tryz.prog 191 #[.agg #[],.pointer (some ⟨b,0,none⟩),.int .i64 lv,.int .i64 100,.bool false] w fun e w' =>
   ∃pk ps vals S db,e=.returned (.tuple #[.map (some db),.nilIface])∧a1y w' db pk vals∧w.heap.size≤db∧a0J S w' ps vals∧(∀k,S k→w.heap.size≤k∧k<w'.heap.size)∧(Corr nn (n+1) (.dict pk ps) (.dict res.1 res.2)∧DSp (SpF pf nn n) l pk ps (62::62::r))∧a0v w' b (62::62::r)∧w.grownBy w' (some b)∧a3O pk:=by
 obtain⟨c0,f0⟩:=hL.cell;have hbw:=hL.lt;obtain⟨HL,HE,HI,HC,Hp,Hh⟩:=xh6 hL hE hI hC hp h;clear hL hE hI hC hp h;go_enter Tryz.func191,Tryz.ntmps191;go_wp2_with fail
 refine(b0E _).mono ?_;rintro e w1⟨rfl,hw1⟩;subst w1;go_wp2_with fail
 have hW:a0v (((w.alloc (Obj.cells #[] 99)).alloc (Obj.cells #[Value.string (bs l)] 9)).alloc (Obj.map #[] 0)) (w.heap.size+1) l∧(((w.alloc (Obj.cells #[] 99)).alloc (Obj.cells #[Value.string (bs l)] 9)).alloc (Obj.map #[] 0)).heap[w.heap.size]?=some (.cells #[] 99 (0,0)):=by
  obtain⟨a0,a1,a2,a3⟩:=a3f w (Obj.cells #[] 99) (Obj.cells #[Value.string (bs l)] 9) (Obj.map #[] 0);exact⟨a1,a0⟩
 have hDA:a1y (((w.alloc (Obj.cells #[] 99)).alloc (Obj.cells #[Value.string (bs l)] 9)).alloc (Obj.map #[] 0)) (w.heap.size+2) [] []:=by
  have:=a1y.new ((w.alloc (Obj.cells #[] 99)).alloc (Obj.cells #[Value.string (bs l)] 9));simpa using this
 go_loopg [] l.length (fun g wr=>DicK pf nn n w wr l res r g)
 case atStart =>
  exact⟨l,m,[],[],[],[],[],fun _=>False,hW.1,Hp.out,Hh.out,hDA,rfl,fun k hk=>hk.elim,⟨Corr.dnil,DSp.nil⟩,(by repeat (first|with_reducible exact xgr w none|with_reducible apply a0a|with_reducible apply a0b|with_reducible apply a0d|with_reducible apply a0e|((with_reducible refine a0B ?_ ?_ _ _);rotate_left;(first|omega|(simp;omega))))),by simpa using hl,rfl,hW.2,by simp⟩
 case round =>
  clear hW hDA c0 f0;obtain⟨la,m2,ks,acc,pk,ps,vals,S,hL,hpl,hd,hDA,hO,hS,hCo,hG,hlen,hg,hbx,hpks⟩:=hrel;have Hpks:=xhd hpks;clear hpks;obtain⟨c1,f1⟩:=hL.cell;obtain⟨m',la',hm',hpl',hcase⟩:=a2Q (a2d pf n) hd;rw[hpl]at hpl';injection hpl' with hpl' _;subst hpl';rcases hcase with⟨t,rfl,rfl,rfl⟩|⟨l2,k,x,l3,rfl,hk,h35,hkk,hwo,hv,hrest⟩
  ·have hds:=fun w=>a9w (62::62::r) true (by simp) (by simp[List.isPrefixOf]) w
   obtain⟨HL1,HDA,HO,HS,HCo,HG,Hlen⟩:=xh7 hL hDA hO hS hCo hG hlen;clear hL hpl hd hDA hO hS hCo hG hlen hg;go_wp2_with fail
   refine(hds _).mono ?_;rintro e w2⟨rfl,hw2⟩;subst w2;have hL0:=HL.out.keep HG.out (by simp);obtain⟨c0,f0⟩:=hL0.cell;have HL0:=xhd hL0;clear hL0;go_wp2_with fail
   go_ret2;have hset:=a0e (xgr wr (some b)) 0 (.string (bs (62::62::r)));have hdl:=HDA.out.lt;refine⟨pk,ps,vals,S,w.heap.size+2,rfl,HDA.out.keep (hset.block _ hdl (by simp;omega)),by omega,a0J.keep (fun k hk=>⟨hk,hset.block k (HS.out k hk).2 (by have:=HS.out k hk;simp;omega)⟩) _ _ HO.out,fun k hk=>?_,HCo.out,HL0.out.set _,a0e (HG.out.but (some b)) _ _,by have:=HCo.out.1.dkeys.2;have:=Hlen.out;omega,Hpks.out⟩;have:=HS.out k hk;have h2:=hset.size;exact⟨by omega,by omega⟩
  ·have hds:=fun w=>a9w (47::l2) false (by simp) (by simp[List.isPrefixOf]) w
   obtain⟨HL1,HDA,HO,HS,HCo,HG,Hk,Hkk⟩:=xh8 hL hDA hO hS hCo hG hk hkk;have Hwo:=xhd hwo;have Hk2:=xhd (show 35∉k∧∀c∈k,(c.toNat:Int)≠0 from⟨h35,a7R _ _ _ hk (by simp) (fun c hc=>(a6b ((a1g l2 hwo).1 c hc).1).1)⟩);obtain⟨Hv,Hrest,Hlen,Hg⟩:=xh4 hv hrest hlen hg;clear hL hpl hd hDA hO hS hCo hG hlen hg hk h35 hkk hwo hv hrest;go_wp2_with fail
   refine(hds _).mono ?_;rintro e w2⟨rfl,hw2⟩;subst w2;go_wp2_with fail
   refine(b6A _).mono ?_;rintro e w2⟨rfl,hg2⟩;have hG2:=HG.out.trans hg2;have hL2:=HL1.out.keep hg2 (by simp);have HG2:=xhd hG2;have hE2:=HE.out.grown0 hG2;obtain⟨HL2,HE2,Hg2⟩:=xh3 hL2 hE2 hg2;have hlen2:ks.length+l2.length+1≤150000:=by have:=Hlen.out;simp at this;omega
   have Hlen2:=xhd hlen2;clear hG2 hL2 hE2 hg2 c1 f1 hlen2;go_wp2_with fail
   refine(a5L W0 HI.out w2 HE2.out (w.heap.size+1) l2 k HL2.out Hwo.out Hk.out (by have:=Hlen2.out;omega) (by have:=HE.out.1;omega)).mono ?_;rintro e w3⟨⟨pb,rfl,hpb,hpbs⟩,hL3,hg3⟩;have hp0:w3.cell? ⟨pb,0,none⟩=some (.string (bs k)):=by simp[World.cell?,hpb]
   obtain⟨HL3,Hg3⟩:=xh2 hL3 hg3;have Hpb:=xhd (And.intro hpb hpbs);obtain⟨c3,f3⟩:=hL3.cell;clear hL3 hg3 hpb hpbs;go_wp2_with fail
   obtain⟨lb,hlb1,hlb2,hlb3,hlb4,hlb5,hlb6⟩:=b9E Hv.out;have hwr:=a1A l2;refine(a1H (a0k l2) lb w3 hlb1 hlb4).mono ?_;rintro e w4⟨⟨q,hq,rfl⟩,hb4⟩;obtain rfl:q=lb:=by rcases hq with h|⟨h,_⟩;exact h;exact absurd h hlb3
   have hg4:=a0o hb4;have hL4:=HL3.out.keep hg4 (by simp);obtain⟨c4,f4⟩:=hL4.cell;have HL4:=xhd hL4;have Hg4:=xhd (Hg3.out.trans (hg4.but (some (w.heap.size+1))));have Hpb4:=xhd (show w4.heap[pb]?=some (.cells #[.string (bs k)] 71 (0,0)) from(hg4.block pb (Array.getElem?_eq_some_iff.1 Hpb.out.1).1 (by simp)).trans Hpb.out.1)
   have hq0:((((bs q).size:Nat):Int)==0)=false:=by
    rw[a0f];have:=List.length_pos_iff.2 hlb3;simp only[beq_eq_false_iff_ne];omega
   have Hlb:=xhd (And.intro hlb2 (And.intro hlb5 hlb6));have Hlb1:=xhd hlb1;have hq1:q.length≤150000:=by have:=Hlen2.out;omega
   have hl31:l3.length+1≤l2.length:=by omega
   have Hq1:=xhd (And.intro hq1 hl31);have hlvw:=c0a hlv (by omega);clear hlb1 hlb2 hlb3 hlb4 hlb5 hlb6 hwr hq hb4 hg4 hL4 c3 f3 hp0 hq1 hl31;go_wp2_with fail
   obtain⟨w5,hw5⟩:∃w5,w5=w4.setCell ⟨w.heap.size+1,0,none⟩ (.string (bs q)):=⟨_,rfl⟩;have hL5:=HL4.out.set q;have hg5:=a0e Hg4.out 0 (.string (bs q))
   have hpb5:w5.heap[pb]?=some (.cells #[.string (bs k)] 71 (0,0)):=by
    rw[hw5];exact((a0e (xgr w4 (some (w.heap.size+1))) 0 (.string (bs q))).block pb (xgl Hpb4.out) (by have:=Hpb.out.2;have:=HL2.out.lt;simp;omega)).trans Hpb4.out
   rw[←hw5]at hL5 hg5⊢;obtain⟨HL5,Hg5,Hpb5⟩:=xh3 hL5 hg5 hpb5;have HE5:=xhd (HE2.out.grown hg5 (fun k hk=>by injection hk with hk;have:=HE.out.1;omega));obtain⟨c5,f5⟩:=hL5.cell;clear hw5 hL5 hg5 hpb5 c4 f4;go_wp2_with fail
   refine(HC.out w5 (w.heap.size+1) q x l3 (lv+1) HE5.out (by have:=HE.out.1;omega) HL5.out Hq1.out.1 (by omega) (by omega) Hlb.out.1).mono ?_;rintro e w6⟨po,v,S2,rfl,hO6,hS6,hC6,hL6,hg6⟩;obtain⟨m2',la3,hm3,hp3,hcs3⟩:=a2Q (a2d pf n) Hrest.out
   have h3:la3≠[]∧∀c∈la3.head?,a0s (c.toNat:Int)=true:=by
    rcases hcs3 with⟨t,rfl,_⟩|⟨l4,k4,x4,l5,rfl,_⟩
    ·exact⟨by simp,fun c hc=>by simp at hc;subst hc;decide⟩
    ·exact⟨by simp,fun c hc=>by simp at hc;subst hc;decide⟩
   have h3l:=a0K false l3 false;rw[hp3]at h3l;have H3:=xhd (show a0j false l3 false=(la3,false)∧la3≠[]∧(∀c∈la3.head?,a0s (c.toNat:Int)=true)∧la3.length≤l3.length∧a0A (rdV pf n) m' la3 false (ks++[k]) (acc++[x])=some (res,r,false) from⟨hp3,h3.1,h3.2,h3l,(a6a hp3).trans Hrest.out⟩);have h2l:=a6F (fun l o x r o' h=>a2z pf n l o x r o' h) Hrest.out (a2d pf n);have hz2:¬(bs l3).size<2:=by rw[a0f];omega
   have hG6:=(Hg2.out.but (some (w.heap.size+1))).trans (Hg5.out.trans hg6);have hbx6:=(hG6.block _ (xgl hbx) (by simp)).trans hbx;have HDA6:=xhd (HDA.out.keep (hG6.block _ HDA.out.lt (by simp)));have HO6:=xhd (a0J.keep (S':=S) (fun j hj=>⟨hj,hG6.block j (HS.out j hj).2 (by have:=HS.out j hj;simp;omega)⟩) _ _ HO.out)
   have hpb6:w6.cell? ⟨pb,0,none⟩=some (.string (bs k)):=by
    have:=(hg6.block pb (xgl Hpb5.out) (by have:=Hpb.out.2;have:=HL2.out.lt;simp;omega)).trans Hpb5.out;simp[World.cell?,this]
   obtain⟨HOv,HSv⟩:=xh2 hO6 hS6;have HCv:=xhd (show Corr nn n po x∧Spl pf nn n (lps q) po l3 from hC6);obtain⟨HL6,HG6⟩:=xh2 hL6 hG6;have Hs5:=xhd (show wr.heap.size≤w5.heap.size from Nat.le_trans Hg2.out.size Hg5.out.size);obtain⟨Hs6,Hbx6⟩:=xh2 hG6.size hbx6;have hno:=hO6.nil_or;clear hm3 hp3 hcs3 h3 h3l h2l hG6 hbx6 hO6 hS6 hC6 hL6 hg6 c5 f5 hq0 hbx hds;rcases hno with⟨hpo,rfl⟩|⟨hpo,ty,u,rfl⟩
   ·have HL7:=HL6
    have HDA7:=HDA6;have HO7:=HO6;have HS7:=xhd (show ∀j,S j→w.heap.size+3≤j∧j<w6.heap.size from fun j hj=>⟨(HS.out j hj).1,Nat.lt_of_lt_of_le (HS.out j hj).2 Hs6.out⟩);have HC7:=xhd (And.intro (HCo.out.1.dnull Hkk.out (HCv.out.1.isNull.2 hpo)) (HCo.out.2.step0 Hk.out Hk2.out Hlb1.out Hlb.out.1 HCv.out H3.out.1 hpo));have HG7:=xhd (show w.grownBy w6 none from a0g HG.out HG6.out (fun j hj=>by injection hj with hj;omega));have HB7:=Hbx6;have HK7:=Hpks;clear hpo;obtain⟨c7,f7⟩:=HL7.out.cell;go_wp2_with fail
    refine(a1H l3 la3 _ H3.out.1 H3.out.2.2.1).mono ?_;rintro e w8⟨⟨q8,hq8,rfl⟩,hb8⟩;obtain rfl:q8=la3:=by rcases hq8 with h|⟨h,_⟩;exact h;exact absurd h H3.out.2.1
    have hg8:=a0o hb8;have hL8:=HL7.out.keep hg8 (by simp);obtain⟨c8,f8⟩:=hL8.cell;obtain⟨HL8,Hg8⟩:=xh2 hL8 hg8
    have hz8:((((bs q8).size:Nat):Int)==0)=false:=by
     rw[a0f];have:=List.length_pos_iff.2 H3.out.2.1;simp only[beq_eq_false_iff_ne];omega
    clear hg8 hb8 hL8 hq8 c7 f7;go_wp2_with fail
    go_roundg q8.length
    case measure=>rw[Hg.out];have:=H3.out.2.2.2.1;have:=Hq1.out.2;simp;omega
    case rel =>
     have hst:=a0e (Hg8.out.but (some (w.heap.size+1))) 0 (.string (bs q8));refine⟨q8,m',ks++[k],acc++[x],pk,ps,vals,S,HL8.out.set q8,a1s H3.out.1,H3.out.2.2.2.2,HDA7.out.keep (hst.block _ HDA7.out.lt (by simp)),a0J.keep (fun j hj=>⟨hj,hst.block j (HS7.out j hj).2 (by have:=HS7.out j hj;simp;omega)⟩) _ _ HO7.out,fun j hj=>?_,HC7.out,a0g HG7.out hst (fun j hj=>by injection hj with hj;omega),?_,rfl,(hst.block _ (xgl HB7.out) (by simp)).trans HB7.out,HK7.out⟩
     ·have:=HS7.out j hj
      have h9:=hst.size;exact⟨by omega,by omega⟩
     ·have:=H3.out.2.2.2.1;have:=Hq1.out.2;have:=Hlen2.out;simp;omega
   ·have hkl:k.length≤1000000:=by
     have h1:=a3z _ _ _ Hk.out;have h2:(a0c l2).length≤l2.length:=(List.takeWhile_sublist _).length_le;have:=Hlen2.out;simp at h1;omega
    have hpk:=HCo.out.1.dkeys;have hpkl:pk.length≤1000000:=by have:=hpk.2;have:=Hlen2.out;omega
    have hpkn:k∉pk:=fun h=>Hkk.out (hpk.1 k h);have hins:=b0w w6 (w.heap.size+1+1) pk vals k (.iface ty u) HDA6.out hpkn hkl hpkl;have Hpo:=xhd hpo;have HK7:=xhd (show ∀k'∈pk++[k],k'.length≤1000000 from fun k' hk'=>by rcases List.mem_append.1 hk' with h|h;exact Hpks.out k' h;simp at h;subst h;exact hkl);clear hkl hpk hpkl hpkn hpo;go_wp2_with fail
    refine hins.mono ?_;rintro e w7⟨rfl,hDA7,hg7⟩;have HL7:=xhd (HL6.out.keep hg7 (by simp));have HDA7:=xhd hDA7;have hlt6:=Hs6.out;have HO7:=xhd (a0J.append (a0J.one (ObjO.keep (S':=fun j=>S j∨S2 j) (fun j hj=>⟨.inr hj,hg7.block j (HSv.out j hj).2 (by have:=HSv.out j hj;have:=Hs5.out;have:=HDA.out.lt;simp;omega)⟩) _ _ HOv.out)) _ _ (a0J.keep (S':=fun j=>S j∨S2 j) (fun j hj=>⟨.inl hj,hg7.block j (by have:=(HS.out j hj).2;omega) (by have:=HS.out j hj;simp;omega)⟩) _ _ HO6.out))
    have HS7:=xhd (show ∀j,(S j∨S2 j)→w.heap.size+3≤j∧j<w7.heap.size from fun j hj=>by
     have h7:=hg7.size;rcases hj with hj|hj
     ·have:=HS.out j hj;omega
     ·have:=HSv.out j hj;have:=Hs5.out;have:=HDA.out.lt;omega)
    have hxn:x.isNull=false:=by
     cases hx:x.isNull with
     | false=>rfl
     | true=>exact absurd (HCv.out.1.isNull.1 hx) Hpo.out
    have HC7:=xhd (And.intro (HCo.out.1.dpush Hkk.out hxn HCv.out.1) (HCo.out.2.step1 Hk.out Hk2.out Hlb1.out Hlb.out.1 HCv.out H3.out.1 Hpo.out));have hG6:w.grownBy w6 none:=a0g HG.out HG6.out (fun j hj=>by injection hj with hj;omega);have HG7:=xhd (show w.grownBy w7 none from a0g hG6 hg7 (fun j hj=>by injection hj with hj;omega));have HB7:=xhd ((hg7.block _ (xgl Hbx6.out) (by simp;omega)).trans Hbx6.out);clear hDA7 hg7 hins hxn hG6 hlt6 hpb6;obtain⟨c7,f7⟩:=HL7.out.cell;go_wp2_with fail
    refine(a1H l3 la3 _ H3.out.1 H3.out.2.2.1).mono ?_;rintro e w8⟨⟨q8,hq8,rfl⟩,hb8⟩;obtain rfl:q8=la3:=by rcases hq8 with h|⟨h,_⟩;exact h;exact absurd h H3.out.2.1
    have hg8:=a0o hb8;have hL8:=HL7.out.keep hg8 (by simp);obtain⟨c8,f8⟩:=hL8.cell;obtain⟨HL8,Hg8⟩:=xh2 hL8 hg8
    have hz8:((((bs q8).size:Nat):Int)==0)=false:=by
     rw[a0f];have:=List.length_pos_iff.2 H3.out.2.1;simp only[beq_eq_false_iff_ne];omega
    clear hg8 hb8 hL8 hq8 c7 f7;go_wp2_with fail
    go_roundg q8.length
    case measure=>rw[Hg.out];have:=H3.out.2.2.2.1;have:=Hq1.out.2;simp;omega
    case rel =>
     have hst:=a0e (Hg8.out.but (some (w.heap.size+1))) 0 (.string (bs q8));refine⟨q8,m',ks++[k],acc++[x],pk++[k],ps++[po],vals++[.iface ty u],fun j=>S j∨S2 j,HL8.out.set q8,a1s H3.out.1,H3.out.2.2.2.2,HDA7.out.keep (hst.block _ HDA7.out.lt (by simp)),a0J.keep (fun j hj=>⟨hj,hst.block j (HS7.out j hj).2 (by have:=HS7.out j hj;simp;omega)⟩) _ _ HO7.out,fun j hj=>?_,HC7.out,a0g HG7.out hst (fun j hj=>by injection hj with hj;omega),?_,rfl,(hst.block _ (xgl HB7.out) (by simp)).trans HB7.out,HK7.out⟩
     ·have:=HS7.out j hj
      have h9:=hst.size;exact⟨by omega,by omega⟩
     ·have:=H3.out.2.2.2.1;have:=Hq1.out.2;have:=Hlen2.out;simp;omega
def b3F (pf:By→Nat)(nn:Nat→Prop)(n:Nat)(w w':World)(b:Nat)(l2:By)(res:List By×List PV)(r:By)(e:Ending):Prop :=
 ∃pk ps vals S db,e=.returned (.tuple #[.map (some db),.nilIface])∧a1y w' db pk vals∧w.heap.size≤db∧a0J S w' ps vals∧(∀k,S k→w.heap.size≤k∧k<w'.heap.size)∧(Corr nn (n+1) (.dict pk ps) (.dict res.1 res.2)∧DSp (SpF pf nn n) l2 pk ps (62::62::r))∧a0v w' b r∧w.grownBy w' (some b)∧a3O pk
theorem a8z (pf:By→Nat)(nn:Nat→Prop)(W0 w:World)(hE:Env W0 w)(hI:a3M W0)(n:Nat)(hC:ObjC pf nn W0 n)(b:Nat)(l2:By)(hL:a0v w b (60::60::l2))(hl:l2.length≤150000)(hW0:W0.heap.size≤b)(lv:Int)(hlv:0≤lv)(hlv2:lv+n+1≤100)
  (m:Nat)(res:List By×List PV)(r:By)(h:a0A (rdV pf n) m l2 false [] []=some (res,r,false)) :
  Calls Tryz.prog 133 #[.agg #[],.pointer (some ⟨b,0,none⟩),.int .i64 lv,.int .i64 100,.bool false] w fun e w'=>b3F pf nn n w w' b l2 res r e:=by
 obtain⟨c0,f0⟩:=hL.cell;have hbw:=hL.lt;obtain⟨m',la,hm,hp,hcs⟩:=a2Q (a2d pf n) h
 have h3:la≠[]∧∀c∈la.head?,a0s (c.toNat:Int)=true:=by
  rcases hcs with⟨t,rfl,_⟩|⟨l4,k4,x4,l5,rfl,_⟩
  ·exact⟨by simp,fun c hc=>by simp at hc;subst hc;decide⟩
  ·exact⟨by simp,fun c hc=>by simp at hc;subst hc;decide⟩
 have h3l:=a0K false l2 false;rw[hp]at h3l;have h2l:=a6F (fun l o x r o' h=>a2z pf n l o x r o' h) h (a2d pf n);have hd:=(a6a hp).trans h;have hpre:=fun w=>a0L (60::60::l2) [60,60] true (by simp[List.isPrefixOf]) w;have hfwd:=fun w=>a2J (60::60::l2) 2 w;simp only[List.drop_succ_cons,List.drop_zero]at hfwd;have ecs:(⟨#[60,60]⟩:ByteArray)=bs [60,60]:=rfl;obtain⟨z,hz⟩:∃z,z=bs (60::60::l2):=⟨_,rfl⟩;have hz4:¬z.size<4:=by rw[hz,a0f];simp;omega
 have hz0:((z.size:Int)==0)=false:=by simp only[beq_eq_false_iff_ne];omega
 rw[←hz]at hpre hfwd c0;obtain⟨HL,HE,HI,HC,Hp,Hd⟩:=xh6 hL hE hI hC hp hd;have H3:=xhd (And.intro h3 (show la.length≤150000 by simp at h3l;omega));have Hz:=xhd hz.symm;clear hL hE hI hC hp h hd h3 h3l h2l hcs hm hz;go_enter Tryz.func133,Tryz.ntmps133;go_wp2_with fail
 obtain⟨w2,hw2⟩:∃w2,w2=(w.alloc (Obj.cells #[] 99)).alloc (Obj.cells #[Value.string z] 9):=⟨_,rfl⟩;have hbx2:w2.heap[w.heap.size]?=some (.cells #[] 99 (0,0)):=by rw[hw2];exact(a0Z w w.heap.size rfl _ _).1
 have hLl2:a0v w2 (w.heap.size+1) (60::60::l2):=by unfold a0v;rw[hw2,←Hz.out];exact(a0Z w w.heap.size rfl _ _).2
 have hG2:w.grownBy w2 none:=by rw[hw2];exact a0a (a0a (xgr w none) _) _
 rw[←hw2];have HL2:=xhd (HL.out.keep hG2 (by simp));obtain⟨HLl2,HG2⟩:=xh2 hLl2 hG2;obtain⟨c2,f2⟩:=HL2.out.cell;obtain⟨d2,e2⟩:=HLl2.out.cell;rw[Hz.out]at c2 d2;have HB2:=xhd hbx2;clear hw2 hLl2 hG2 hbx2;refine(hpre _).mono ?_;rintro e w1⟨rfl,hw1⟩;subst w1;go_wp2_with fail
 refine(hfwd _).mono ?_;rintro e w1⟨rfl,hw1⟩;subst w1;go_wp2_with fail
 have hL3:=HLl2.out.set l2;have hg3:=a0e (xgr w2 (some (w.heap.size+1))) 0 (.string (bs l2));generalize w2.setCell ⟨w.heap.size+1,0,none⟩ (.string (bs l2))=w3 at hL3 hg3⊢;obtain⟨HL3,Hg3⟩:=xh2 hL3 hg3;clear hL3 hg3;refine(a1H l2 la _ Hp.out H3.out.1.2).mono ?_;rintro e w4⟨⟨q,hq,rfl⟩,hb4⟩;obtain rfl:q=la:=by rcases hq with h|⟨h,_⟩;exact h;exact absurd h H3.out.1.1
 have hg4:=a0o hb4;have HL4:=xhd (HL3.out.keep hg4 (by simp));have Hg4:=xhd (Hg3.out.trans (hg4.but (some (w.heap.size+1))));obtain⟨c4,f4⟩:=HL4.out.cell
 have hq0:((((bs q).size:Nat):Int)==0)=false:=by
  rw[a0f];have:=List.length_pos_iff.2 H3.out.1.1;simp only[beq_eq_false_iff_ne];omega
 clear hq hb4 hg4 c2 d2 f2 e2;go_wp2_with fail
 obtain⟨w5,hw5⟩:∃w5,w5=w4.setCell ⟨w.heap.size+1,0,none⟩ (.string (bs q)):=⟨_,rfl⟩;have hL5:=HL4.out.set q;have hg5:=a0e Hg4.out 0 (.string (bs q));rw[←hw5]at hL5 hg5⊢;obtain⟨HL5,Hg5⟩:=xh2 hL5 hg5;have HE5:=xhd ((HE.out.grown0 HG2.out).grown hg5 (fun k hk=>by injection hk with hk;have:=HE.out.1;omega));obtain⟨c5,f5⟩:=hL5.cell;have hbx5:=(hg5.block _ (xgl HB2.out) (by simp)).trans HB2.out;clear hw5 hL5 hg5 c4 f4;go_wp2_with fail
 refine(b4j pf nn W0 w5 HE5.out HI.out n HC.out (w.heap.size+1) q HL5.out H3.out.2 (by have:=HE.out.1;omega) lv hlv hlv2 m res r (a1s Hp.out) Hd.out).mono ?_;rintro e w6⟨pk,ps,vals,S,db,rfl,hDA,hdb,hO,hS,hC,hL6,hg6,hKO⟩;have hG6:w.grownBy w6 none:=a0g HG2.out (Hg5.out.trans hg6) (fun j hj=>by injection hj with hj;omega);have HLb:=xhd (HL.out.keep hG6 (by simp))
 have hs5:w.heap.size+2≤w5.heap.size:=by
  have h1:=HLl2.out.lt;have h2:=Hg5.out.size;omega
 have HDA:=xhd (And.intro hDA hdb);have HKO:=xhd hKO;clear hKO;obtain⟨HO,HS⟩:=xh2 hO hS;have HCo:=xhd (And.intro hC.1 (hC.2.congr (l':=l2) (by rw[a4G Hp.out,a1K Hp.out])));obtain⟨HL6,HG6⟩:=xh2 hL6 hG6;obtain⟨c6,f6⟩:=hL6.cell;clear hDA hdb hO hS hC hL6 hg6 hG6 c5 f5 hbx5;go_wp2_with fail
 refine(a2J (62::62::r) 2 _).mono ?_;rintro e w7⟨rfl,hw7⟩;subst w7;simp only[List.drop_succ_cons,List.drop_zero];obtain⟨c7,f7⟩:=HLb.out.cell;go_wp2_with fail
 have hL7:=HL6.out.set r;have hg7:=a0e (xgr w6 (some (w.heap.size+1))) 0 (.string (bs r));have HLb7:=xhd (HLb.out.keep hg7 (by simp;omega));obtain⟨w7,hw7⟩:∃w7,w7=w6.setCell ⟨w.heap.size+1,0,none⟩ (.string (bs r)):=⟨_,rfl⟩;rw[←hw7]at hL7 hg7 HLb7⊢;clear hw7 c6 c7 f6 f7;go_ret2;have hg8:=a0e (xgr w7 (some b)) 0 (.string (bs r));have hkk:∀k,k<w6.heap.size→k≠b→k≠w.heap.size+1→(w7.setCell ⟨b,0,none⟩ (.string (bs r))).heap[k]?=w6.heap[k]?:=fun k h1 h2 h3=>(hg8.block k (Nat.lt_of_lt_of_le h1 hg7.size) (by simp;omega)).trans (hg7.block k h1 (by simp;omega));have hs7:=hg7.size;have hs8:=hg8.size;refine⟨pk,ps,vals,S,db,rfl,HDA.out.1.keep (hkk db HDA.out.1.lt (by have:=HDA.out.2;omega) (by have:=HDA.out.2;omega)),by have:=HDA.out.2;omega,a0J.keep (fun k hk=>⟨hk,hkk k (HS.out k hk).2 (by have:=HS.out k hk;omega) (by have:=HS.out k hk;omega)⟩) _ _ HO.out,fun k hk=>by have:=HS.out k hk;omega,HCo.out,HLb7.out.set r,?_,HKO.out⟩;exact a0e ((a0g HG6.out hg7 (fun j hj=>by injection hj with hj;omega)).but (some b)) _ _
theorem a8y (pf:By→Nat)(nn:Nat→Prop)(Q:PO→Prop)(W0 w:World)(hE:Env W0 w)(hI:a3M W0)(n:Nat)(hC:ObjC pf nn W0 n)(b:Nat)(l2:By)(hL:a0v w b (60::60::l2))(hl:l2.length≤150000)(hW0:W0.heap.size≤b)(lv:Int)(hlv:0≤lv)(hlv2:lv+n+1≤100)
  (m:Nat)(res:List By×List PV)(r:By)(h:a0A (rdV pf n) m l2 false [] []=some (res,r,false))(hQ:∀pk ps,DSp (SpF pf nn n) l2 pk ps (62::62::r)→Q (.dict pk ps)) :
  Calls Tryz.prog 101 #[.agg #[],.pointer (some ⟨b,0,none⟩),.int .i64 lv,.int .i64 100,.bool false] w fun e w'=>a0E (nn,Q) (n+1) w w' b (.dict res.1 res.2) r e:=by
 obtain⟨c0,f0⟩:=hL.cell;have hbw:=hL.lt;obtain⟨z,hz⟩:∃z,z=bs (60::60::l2):=⟨_,rfl⟩;have hz2:¬z.size<2:=by rw[hz,a0f];simp
 have hz1:1<z.size:=by omega
 obtain⟨hk1,hget⟩:=a3k (l:=60::60::l2) (pre:=[60]) (c:=60) (post:=l2) rfl;have hg1:z[1]'hz1=60:=by simp only[hz];exact hget
 rw[←hz]at c0;obtain⟨HL,HE⟩:=xh2 hL hE;have hg0:w.grownBy (w.alloc (Obj.cells #[] 99)) none:=a0a (xgr _ _) _;have hd:=a8z pf nn W0 (w.alloc (Obj.cells #[] 99)) (hE.grown0 hg0) hI n hC b l2 (hL.keep hg0 (by simp)) hl hW0 lv hlv hlv2 m res r h;have hck:=fun w=>a5u ⟨#[112,97,114,115,101,32,111,98,106,101,99,116]⟩ lv (by omega) w;have Hg0:=xhd hg0;have hss:w.heap.size<(w.alloc (Obj.cells #[] 99)).heap.size:=by simp
 obtain⟨Hss,HQ⟩:=xh2 hss hQ;clear hL hE hI hC h hz hk1 hget hg0 hss hQ;go_enter Tryz.func101,Tryz.ntmps101;go_wp2_with fail
 refine(hck _).mono ?_;rintro e w1⟨rfl,hw1⟩;subst w1;go_wp2_with fail
 refine hd.mono ?_;rintro e w1⟨pk,ps,vals,S,db,rfl,hDA,hdb,hO,hS,hC,hL1,hg1,hKO⟩
 have H:=xhd (show a0E (nn,Q) (n+1) w w1 b (.dict res.1 res.2) r (.returned (.tuple #[.iface 81 (.map (some db)),.nilIface])) from⟨.dict pk ps,_,fun k=>k=db∨S k,rfl,by
  simp only[ObjO];exact⟨hKO,db,vals,rfl,.inl rfl,hDA,a0J.keep (fun k hk=>⟨.inr hk,rfl⟩) _ _ hO⟩,fun k hk=>by
  have:=Hss.out;rcases hk with rfl|hk
  ·have:=hDA.lt;omega
  ·have:=hS k hk;omega,⟨hC.1,HQ.out _ _ hC.2⟩,hL1,(Hg0.out.but (some b)).trans hg1⟩)
 clear hDA hdb hO hS hC hL1 hg1 hKO;go_wp2_with fail
 go_ret2;exact H.out
theorem b0q (W0 w:World)(hE:Env W0 w)(hI:a3M W0)(nn:NQ)(n:Nat)(b:Nat)(l1 t r:By)(hL:a0v w b (60::l1))(hl:l1.length≤150000)(h60:is2 (60::l1) 60=false)(h:hexF l1 false 0 [] false=(0,t,r,false))(hQ:∀a m c,l1=a++m++c++62::r→(∀x∈a,a0h (x.toNat:Int)=true)→(∀x∈c,a0h (x.toNat:Int)=true)→nn.2 (.hexl (hexS m 0 [])))(lv:Int) :
  Calls Tryz.prog 101 #[.agg #[],.pointer (some ⟨b,0,none⟩),.int .i64 lv,.int .i64 100,.bool false] w fun e w'=>a0E nn (n+1) w w' b (.str t) r e:=by
 obtain⟨hx,rfl,hok,hall⟩:=b6N h;clear h;obtain⟨c0,f0⟩:=hL.cell;have hbw:=hL.lt;obtain⟨z,hz⟩:∃z,z=bs (60::(hx++62::r)):=⟨_,rfl⟩;have hz2:¬z.size<2:=by rw[hz,a0f];simp;omega
 have hz1:1<z.size:=by omega
 obtain⟨d,tl,hdt⟩:∃d tl,hx++62::r=d::tl:=by cases hx<;>exact⟨_,_,rfl⟩
 obtain⟨hk1,hget⟩:=a3k (l:=60::(hx++62::r)) (pre:=[60]) (c:=d) (post:=tl) (by rw[hdt];rfl);have hg1:z[1]'hz1=d:=by simp only[hz];exact hget
 have hd60:((d.toNat:Int)==60)=false:=by rw[hdt]at h60;simpa[is2] using h60
 rw[←hz]at c0;obtain⟨HL,HE⟩:=xh2 hL hE;have hg0:w.grownBy (w.alloc (Obj.cells #[] 99)) none:=a0a (xgr _ _) _;have hd:=b0r W0 hI (w.alloc (Obj.cells #[] 99)) (hE.grown0 hg0) b hx r (hL.keep hg0 (by simp)) hok (by simp at hl;omega) (by simp at hl;omega);obtain⟨Hg0,Hall,HQ⟩:=xh3 hg0 hall hQ;have Hhl:=xhd (show hx.length≤150000 by simp at hl;omega);clear hL hE hI hz hk1 hget hg0 hdt h60 hall hok hQ;go_enter Tryz.func101,Tryz.ntmps101;go_wp2_with fail
 refine hd.mono ?_;rintro e w1⟨⟨a,m,c,hm,ha,hc,rfl⟩,hL1,hg1⟩;have H:=xhd (show a0E nn (n+1) w w1 b (.str t) r (.returned (.tuple #[.iface 70 (.string (bs (hexS m 0 []))),.nilIface])) from a0E.plain (.hexl (hexS m 0 [])) _ rfl (fun _ _=>by simp only[ObjO];exact⟨by have h1:=a9C m 0;have h2:=Hhl.out;rw[hm]at h2;simp at h2;omega,trivial⟩) (by simp only[Corr];exact Hall.out a m c hm ha hc) (HQ.out a m c (by rw[hm]) (fun x hx=>(ha x hx).1) hc) hL1 ((Hg0.out.but (some b)).trans hg1));clear hm ha hc hL1 hg1;go_wp2_with fail
 go_ret2;exact H.out
end Go.Proofs.YtfkecmlmnhbmoaaGreatDoor
namespace Go.Proofs.YtfkecmlmnhbmoaaGreatDoor
open Go Go.RowKit
theorem a1z (w:World)(p:Int)(h1:-10000≤p)(h2:p≤10000):Calls Tryz.prog 120 #[.int .i64 p] w fun e w'=>e=.returned (.int .i64 (p*78913/262144))∧w'=w:=by
 go_enter Tryz.func120,Tryz.ntmps120;go_wp2_with fail
 go_ret;exact⟨rfl,rfl⟩
theorem b7Z (x:Int)(h0:0≤x)(h1:x≤18446744073709551615):∃u:Int,(0≤u∧u≤18446744073709551615)∧∀w:World,Calls Tryz.prog 169 #[.int .u64 x] w fun e w'=>e=.returned (.int .u64 u)∧w'=w:=by
 apply Exists.intro;refine⟨?_,fun w=>?_⟩
 rotate_left
 go_enter Tryz.func169,Tryz.ntmps169;go_wp2_with fail
 go_ret;exact⟨rfl,rfl⟩;rw[IntKind.wrap_u64];omega
theorem a7n (u:Int)(h0:0≤u)(h1:u≤18446744073709551615):∃v:Int,(0≤v∧v≤18446744073709551615)∧∀w:World,Calls Tryz.prog 166 #[.int .u64 u] w fun e w'=>e=.returned (.int .u64 v)∧w'=w:=by
 apply Exists.intro;refine⟨?_,fun w=>?_⟩
 rotate_left
 go_enter Tryz.func166,Tryz.ntmps166;go_wp2_with fail
 go_ret;exact⟨rfl,rfl⟩;rw[IntKind.wrap_u64];omega
theorem b3M (w:World):Calls Tryz.prog 207 #[.bool true] w fun e w'=>e=.returned (.int .u64 1)∧w'=w:=by
 go_enter Tryz.func207,Tryz.ntmps207;go_wp2_with fail
 go_ret;exact⟨rfl,rfl⟩
theorem b3L (w:World):Calls Tryz.prog 207 #[.bool false] w fun e w'=>e=.returned (.int .u64 0)∧w'=w:=by
 go_enter Tryz.func207,Tryz.ntmps207;go_wp2_with fail
 go_ret;exact⟨rfl,rfl⟩
theorem b5L (u:Int)(h0:0≤u)(h1:u≤18446744073709551615):∃v:Int,(0≤v∧v≤18446744073709551615)∧∀w:World,Calls Tryz.prog 170 #[.int .u64 u,.int .u64 10] w fun e w'=>e=.returned (.int .u64 v)∧∃n,w'=w.drewN n:=by
 rcases xbt (u%10 != 0) with hb|hb
 all_goals
  apply Exists.intro;refine⟨?_,fun w=>?_⟩
  rotate_left
  go_enter Tryz.func170,Tryz.ntmps170;go_wp2_with fail
  go_quiet (first|(go_at_call 207;with_reducible first|exact Calls.quiet_of_same (b3M _)|exact a1L (b3M _)|exact Calls.quiet_of (b3M _)|exact a3b (b3M _))|(go_at_call 207;with_reducible first|exact Calls.quiet_of_same (b3L _)|exact a1L (b3L _)|exact Calls.quiet_of (b3L _)|exact a3b (b3L _)))
  go_wp2_with fail
  go_ret;exact⟨rfl,_,rfl⟩;exact a5h _ _
end Go.Proofs.YtfkecmlmnhbmoaaGreatDoor
