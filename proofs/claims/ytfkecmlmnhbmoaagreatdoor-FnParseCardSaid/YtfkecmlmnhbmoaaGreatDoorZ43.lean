/- FnParse: the texts H4 H5 H6 H7 K1 K2 of the workbench, laid together. -/
import Derived.Test.YtfkecmlmnhbmoaaGreatDoorProg
import Derived.WalkKit
import Derived.WalkLawsBesides
import Derived.WalkSpells
import Derived.BigQuiet
import Derived.BigRegion
import Derived.Deep.QuietTactic
import Derived.Deep.RegionHeld3
import Derived.Deep.LoopGhost
import Derived.StillTailTactics
import Derived.Lib.Hide
import Derived.Laws.EntriesVeiled
import Derived.Defers
import Derived.Recover
import Derived.Test.YtfkecmlmnhbmoaaGreatDoorZ42
set_option linter.unusedVariables false
set_option linter.unusedSimpArgs false
namespace Go.Proofs.YtfkecmlmnhbmoaaGreatDoor
open Go Go.RowKit
open Go.Maps
set_option maxRecDepth 100000 in
set_option maxHeartbeats 40000000 in
theorem tell_ret7 {w3:World} {B:Nat} {a0 a1 a2 a3 a4 a5 a6 v0 v1 v2 v3 v4 v5 v6 u3:Value} {tmps:Array Value} {R:Ending→World→Prop} (h2:tmps.getD 2 undef=.pointer (some ⟨B,0,none⟩)) (h3:tmps.getD 3 undef=u3)
    (hz:w3.heap[B]?=some (.cells #[a0,a1,a2,a3,a4,a5,a6] 26 (0,0)))
    (hR:∀ w',(∀ r,w3.grownBy w' r→True)→(∀ k,k≠B→w'.heap[k]?=w3.heap[k]?)→w'.heap.size=w3.heap.size→(∀ w0 r,World.grownBy w0 w3 r→w0.heap.size≤B→World.grownBy w0 w' r)→R (.returned (.tuple #[.agg #[v0,v1,v2,v3,v4,v5,v6],u3])) w'):bodyPost Tryz.prog Tryz.f55 R Exit.ret { tmps:=tmps,defers:=[] } (set7 w3 B v0 v1 v2 v3 v4 v5 v6):=by
  have hz4:=set7_at hz v0 v1 v2 v3 v4 v5 v6
  have hR4:=hR _ (fun _ _=>trivial) (fun k hk=>set7_other w3 B k v0 v1 v2 v3 v4 v5 v6 hk) (set7_size w3 B v0 v1 v2 v3 v4 v5 v6) (fun w0 r hg hB=>set7_gr hg hB v0 v1 v2 v3 v4 v5 v6)
  generalize set7 w3 B v0 v1 v2 v3 v4 v5 v6=w4 at *
  obtain ⟨y0,y1,y2,y3,y4,y5,y6,yf⟩:=cells7 hz4
  simp only [Array.getD_eq_getD_getElem?] at h2 h3
  exact bodyPost_ret (v:=.tuple #[.agg #[v0,v1,v2,v3,v4,v5,v6],u3]) (by simp [results,Tryz.results55,go_sem,h2,h3,y0,y1,y2,y3,y4,y5,y6]) rfl hR4
def Z26:Obj:=.cells #[.int .i64 0,.int .i64 0,.int .i64 0,.float .f64 0,.string ⟨#[]⟩,.slice none 0 0,.slice none 0 0] 26 (0,0)
set_option maxRecDepth 100000 in
set_option maxHeartbeats 40000000 in
theorem tell_arr (w:World) (ps:List PO) (o:Option Addr) (cap:Nat) (hl:ps.length≤1000000)
    (hc:Calls Tryz.prog 65 #[.slice o ps.length cap] (w.alloc Z26) fun e w'=>∃ vs cs S',e=.returned (.tuple #[vs,.bool true])∧SlAt S' w' vs 7 ps.length cs∧IsOs S' w' (sortPs ps) cs∧(∀ k,S' k→(w.alloc Z26).heap.size≤k∧k < w'.heap.size)∧(w.alloc Z26).grownBy w' none) :
    Calls Tryz.prog 55 #[.iface 77 (.slice o ps.length cap)] w fun e w'=>TellPost w w' (sortP (.arr ps)) e:=by
  have hz0:=heap_alloc_new w Z26
  have hg0:w.grownBy (w.alloc Z26) none:=gr_alloc (World.grownBy.refl w none) _
  have hs0:(w.alloc Z26).heap.size=w.heap.size + 1:=by simp
  have Hl:=Lib.hid hl
  have Hs0:=Lib.hid hs0
  obtain ⟨N,hN⟩:∃ N,N=ps.length:=⟨_,rfl⟩
  rw [←hN] at hc ⊢
  have HN:=Lib.hid hN
  clear hN hs0 hl
  unfold Z26 at *
  go_enter Tryz.func55,Tryz.ntmps55
  go_wp2_with fail
  refine hc.mono ?_
  rintro e w1 ⟨vs,cs,S',rfl,hsl,hIs,hS,hg1⟩
  have hz1:=(hg1.block _ (by simp) (by simp)).trans hz0
  obtain ⟨z0,z1,z2,z3,z4,z5,z6,zf⟩:=cells7 hz1
  obtain ⟨vo,vcap,rfl⟩:∃ vo vcap,vs=.slice vo N vcap:=by
    obtain ⟨_,o',cap,h,_⟩:=hsl
    exact ⟨o',cap,h⟩
  have Hsl:=Lib.hid hsl
  have HIs:=Lib.hid hIs
  have HS:=Lib.hid hS
  have HG:=Lib.hid (hg0.trans hg1)
  have Hz1:=Lib.hid hz1
  clear hsl hIs hS hg1 hz1 hg0 hc hz0
  go_wp2_with fail
  refine tell_ret7 rfl rfl Hz1.out ?_
  intro w' _ hk hsz hgr
  have hne:∀ k,S' k→k≠w.heap.size:=fun k hk=>by have:=HS.out k hk;have:=Hs0.out;omega
  refine ⟨nilS,.slice vo N vcap,S',rfl,?_,fun k hk=>by have:=HS.out k hk;have:=Hs0.out;omega,hgr _ _ HG.out (Nat.le_refl _)⟩
  simp only [sortP,IsO]
  refine ⟨by rw [sortPs_map];simpa using Hl.out,SlAt.nil _ _ _,cs,?_,IsOs.keep (fun k hk'=>⟨hk',hk k (hne k hk')⟩) _ _ HIs.out⟩
  have h:=Hsl.out.keep (S':=S') (w':=w') (fun k hk'=>⟨hk',hk k (hne k hk')⟩)
  rw [sortPs_map,List.length_map,←HN.out]
  exact h
theorem KeysOk.sort {pk:List By} (h:KeysOk pk):KeysOk (pk.mergeSort leBy):=⟨by rw [List.length_mergeSort];exact h.1,fun k hk=>h.2 k (mem_sort.1 hk)⟩
set_option maxRecDepth 100000 in
set_option maxHeartbeats 40000000 in
theorem tell_dict (w:World) (pk:List By) (ps:List PO) (db:Nat) (hK:KeysOk pk) (hc:Calls Tryz.prog 66 #[.map (some db)] (w.alloc Z26) fun e w'=>TdPost (w.alloc Z26) w' pk ps e) :
    Calls Tryz.prog 55 #[.iface 81 (.map (some db))] w fun e w'=>TellPost w w' (sortP (.dict pk ps)) e:=by
  have hz0:=heap_alloc_new w Z26
  have hg0:w.grownBy (w.alloc Z26) none:=gr_alloc (World.grownBy.refl w none) _
  have hs0:(w.alloc Z26).heap.size=w.heap.size + 1:=by simp
  have HK:=Lib.hid hK
  have Hs0:=Lib.hid hs0
  clear hs0 hK
  unfold Z26 at *
  go_enter Tryz.func55,Tryz.ntmps55
  go_wp2_with fail
  refine hc.mono ?_
  rintro e w1 ⟨kv,vs,cs,S',rfl,hkv,hsl,hIs,hS,hg1⟩
  have hz1:=(hg1.block _ (by simp) (by simp)).trans hz0
  obtain ⟨z0,z1,z2,z3,z4,z5,z6,zf⟩:=cells7 hz1
  obtain ⟨N,hN⟩:∃ N,N=pk.length:=⟨_,rfl⟩
  rw [←hN] at hkv hsl
  obtain ⟨vo,vcap,rfl⟩:∃ vo vcap,vs=.slice vo N vcap:=by
    obtain ⟨_,o',cap,h,_⟩:=hsl
    exact ⟨o',cap,h⟩
  obtain ⟨ko,kcap,rfl⟩:∃ ko kcap,kv=.slice ko N kcap:=by
    obtain ⟨_,o',cap,h,_⟩:=hkv
    exact ⟨o',cap,h⟩
  have Hsl:=Lib.hid hsl
  have Hkv:=Lib.hid hkv
  have HIs:=Lib.hid hIs
  have HS:=Lib.hid hS
  have HG:=Lib.hid (hg0.trans hg1)
  have Hz1:=Lib.hid hz1
  have HN:=Lib.hid hN
  clear hsl hkv hIs hS hg1 hz1 hg0 hc hz0 hN
  have y30:∀ (a b c:Value),([a,b,c]:List Value)[0]?=some a:=fun _ _ _=>rfl
  have y31:∀ (a b c:Value),([a,b,c]:List Value)[1]?=some b:=fun _ _ _=>rfl
  have y32:∀ (a b c:Value),([a,b,c]:List Value)[2]?=some c:=fun _ _ _=>rfl
  go_wp2_with fail
  refine tell_ret7 rfl rfl Hz1.out ?_
  intro w' _ hk hsz hgr
  have hne:∀ k,S' k→k≠w.heap.size:=fun k hk=>by have:=HS.out k hk;have:=Hs0.out;omega
  refine ⟨.slice ko N kcap,.slice vo N vcap,S',rfl,?_,fun k hk=>by have:=HS.out k hk;have:=Hs0.out;omega,hgr _ _ HG.out (Nat.le_refl _)⟩
  simp only [sortP,IsO]
  refine ⟨HK.out.sort,by simp,?_,cs,?_,IsOs.keep (fun k hk'=>⟨hk',hk k (hne k hk')⟩) _ _ HIs.out⟩
  · have h:=Hkv.out.keep (S':=S') (w':=w') (fun k hk'=>⟨hk',hk k (hne k hk')⟩)
    rw [List.length_mergeSort,←HN.out]
    exact h
  · have h:=Hsl.out.keep (S':=S') (w':=w') (fun k hk'=>⟨hk',hk k (hne k hk')⟩)
    rw [List.length_map,List.length_mergeSort,←HN.out]
    exact h
theorem tellC_all (nn:Nat→Prop):∀ n,TellC nn n:=by
  intro n
  induction n with
  | zero=>intro p x S w v h;simp [Corr] at h
  | succ n ih =>
    intro p x S w v hC hO hS
    have hg0:w.grownBy (w.alloc Z26) none:=gr_alloc (World.grownBy.refl w none) _
    have hS2:∀ k,S k→S k∧(w.alloc Z26).heap[k]?=w.heap[k]?:=fun k hk=>⟨hk,hg0.block k (hS k hk) (by simp)⟩
    have hS3:∀ k,S k→k < (w.alloc Z26).heap.size:=fun k hk=>Nat.lt_of_lt_of_le (hS k hk) hg0.size
    cases p<;>simp only [ObjO] at hO
    case null=>subst hO;exact tell_null w
    case bool y=>subst hO;cases y;exact tell_bfalse w;exact tell_btrue w
    case int n=>subst hO;exact tell_int n w
    case real y=>subst hO;exact tell_real y w
    case lit s=>obtain ⟨h,rfl⟩:=hO;exact tell_lit s h w
    case hexl s=>obtain ⟨h,rfl⟩:=hO;exact tell_hexl s h w
    case name s=>obtain ⟨h,rfl⟩:=hO;exact tell_name s h w
    case ref n g=>subst hO;exact tell_ref n g w
    case arr kids =>
      obtain ⟨hl,sl,cells,rfl,hsl,hOs⟩:=hO
      cases x<;>simp only [Corr] at hC<;>try exact hC.elim
      rename_i xs
      have hc:=tells_any nn n ih kids xs S (w.alloc Z26) sl cells (by simp only [Corr];exact hC) hl (hsl.keep hS2) (ObjOs.keep hS2 _ _ hOs) hS3
      obtain ⟨_,o,cap,rfl,_⟩:=hsl
      exact tell_arr w kids o cap hl hc
    case dict keys kids =>
      obtain ⟨hK,db,vals,rfl,hSd,hD,hOs⟩:=hO
      cases x<;>simp only [Corr] at hC<;>try exact hC.elim
      rename_i ks xs
      have hc:=tdict_any nn n ih keys kids ks xs S (w.alloc Z26) db vals (by simp only [Corr];exact hC) hK (hD.keep (hS2 db hSd).2) (ObjOs.keep hS2 _ _ hOs) hS3
      exact tell_dict w keys kids db hK hc
end Go.Proofs.YtfkecmlmnhbmoaaGreatDoor
namespace Go.Proofs.YtfkecmlmnhbmoaaGreatDoor
open Go Go.RowKit
open Go.Maps
set_option maxRecDepth 100000 in
set_option maxHeartbeats 40000000 in
theorem calm_idle (p:Addr) (w:World) :
    CallsD Tryz.prog 41 #[.pointer (some p)] .returning w fun e u' w'=>e=.returned (.tuple #[])∧u'=.returning∧w'=w:=by
  refine callsD_of_wpS Tryz.func41 rfl fun c₀ cs hu=>?_
  apply wpS_seq
  apply wpS_region
  simp [wpOpsS,go_sem,recoverD,hu,Tryz.ntmps41,Exit.thenS]
  refine wpS_cond (t:=false) (by simp [Act.eval,Array.replicate]) ?_
  simp only [Bool.false_eq_true,if_false]
  refine wpS_of_wp (wp_skip ?_)
  cases c₀
  simp_all [bodyPostS,results,Tryz.results41]
set_option maxRecDepth 100000 in
set_option maxHeartbeats 40000000 in
theorem calm_any (w:World) (args:Array Value) (R:World→Prop) (hF:Calls Tryz.prog 54 args (w.alloc (.cells #[.bool false] 4)) fun e w'=>e=.returned (.tuple #[])∧w'.heap[w.heap.size]?=some (.cells #[.bool false] 4 (0,0))∧R w') :
    Calls Tryz.prog 22 #[.func (.func 54) #[] args] w fun e w'=>e=.returned (.bool true)∧∃ w1,R w1∧w1.heap[w.heap.size]?=some (.cells #[.bool false] 4 (0,0))∧w'=w1.setCell ⟨w.heap.size,0,none⟩ (.bool true):=by
  have hmf:∀ (fn:Fn) (first cap:Array Value) (w:World),(Instr.makeFunc fn first cap).run Tryz.prog w=.ok (.func fn first cap) w:=fun _ _ _ _=>rfl
  go_enter_defers Tryz.func22,Tryz.ntmps22
  go_wp2_with fail
  refine hF.mono ?_
  rintro e w1 ⟨rfl,hz,hR⟩
  have c1:w1.cell? ⟨w.heap.size,0,none⟩=some (.bool false):=by simp [World.cell?,hz]
  have f1:w1.frozen? ⟨w.heap.size,0,none⟩=false:=by simp [World.frozen?,hz]
  have HR:=Lib.hid (And.intro hR hz)
  clear hF hR hz
  go_wp2_with fail
  refine leaves_cons (f:=41) (args:=#[.pointer (some ⟨w.heap.size,0,none⟩)]) (by simp) (by simp [go_sem]) ?_
  refine (calm_idle ⟨w.heap.size,0,none⟩ _).mono ?_
  rintro e u' w'' ⟨rfl,rfl,rfl⟩
  have hz2:=cells1_set HR.out.2 (.bool true)
  refine Exists.intro (.bool true) ⟨by simp [results,Tryz.results22,go_sem,World.cell?,hz2],?_⟩
  exact ⟨rfl,w1,HR.out.1,HR.out.2,rfl⟩
def RdPost (nn:Nat→Prop) (n:Nat) (w w':World) (b bo be:Nat) (x:PV) (r:By):Prop :=
  ∃ po v S,w'.heap[bo]?=some (.cells #[v] 50 (0,0))∧w'.heap[be]?=some (.cells #[.nilIface] 92 (0,0))∧ObjO S w' po v∧(∀ k,S k→w.heap.size≤k∧k < w'.heap.size)∧Corr nn n po x∧LineAt w' b r ∧
    w'.os=w.os∧w'.tape=w.tape∧w'.output=w.output∧w.heap.size≤w'.heap.size∧∀ k,k < w.heap.size→k≠b→k≠bo→k≠be→w'.heap[k]?=w.heap[k]?
set_option maxRecDepth 100000 in
set_option maxHeartbeats 40000000 in
theorem rd54_any (nn:Nat→Prop) (n:Nat) (w:World) (bx b bo be:Nat) (x:PV) (r:By) (hx:w.heap[bx]?=some (.cells #[.func (.func 30) #[] #[]] 62 (0,0))) (ho:w.heap[bo]?=some (.cells #[.nilIface] 50 (0,0))) (he:w.heap[be]?=some (.cells #[.nilIface] 92 (0,0))) (hne:b < bo) (hne2:bo < be)
    (hc:Calls Tryz.prog 30 #[.pointer (some ⟨b,0,none⟩)] w fun e w'=>ObjPost nn n w w' b x r e) :
    Calls Tryz.prog 54 #[.pointer (some ⟨bx,0,none⟩),.pointer (some ⟨b,0,none⟩),.pointer (some ⟨bo,0,none⟩),.pointer (some ⟨be,0,none⟩)] w fun e w'=>e=.returned (.tuple #[])∧RdPost nn n w w' b bo be x r:=by
  have c1:w.cell? ⟨bx,0,none⟩=some (.func (.func 30) #[] #[]):=by simp [World.cell?,hx]
  have hbe:=(Array.getElem?_eq_some_iff.1 he).1
  have hbo:=(Array.getElem?_eq_some_iff.1 ho).1
  have Ho:=Lib.hid ho
  have He:=Lib.hid he
  clear hx ho he
  go_enter Tryz.func54,Tryz.ntmps54
  go_wp2_with fail
  refine hc.mono ?_
  rintro e w1 ⟨po,v,S,rfl,hO,hS,hC,hL,hg⟩
  have ho1:=(hg.block bo hbo (by simp;omega)).trans Ho.out
  have he1:=(hg.block be hbe (by simp;omega)).trans He.out
  have co:w1.cell? ⟨bo,0,none⟩=some .nilIface:=by simp [World.cell?,ho1]
  have fo:w1.frozen? ⟨bo,0,none⟩=false:=by simp [World.frozen?,ho1]
  have ce:w1.cell? ⟨be,0,none⟩=some .nilIface:=by simp [World.cell?,he1]
  have fe:w1.frozen? ⟨be,0,none⟩=false:=by simp [World.frozen?,he1]
  have hoe:¬be=bo:=by omega
  have hoe2:¬bo=be:=by omega
  have H:=Lib.hid (show RdPost nn n w ((w1.setCell ⟨bo,0,none⟩ v).setCell ⟨be,0,none⟩ .nilIface) b bo be x r from by
    have h1:=cells1_set ho1 v
    have hg1:=gr_set (World.grownBy.refl w1 (some bo)) 0 v
    obtain ⟨w2,hw2⟩:∃ w2,w2=w1.setCell ⟨bo,0,none⟩ v:=⟨_,rfl⟩
    rw [←hw2] at h1 hg1 ⊢
    have he2:=(hg1.block be (by have:=hg.size;omega) (by simp;omega)).trans he1
    have h2:=cells1_set he2 .nilIface
    have hg2:=gr_set (World.grownBy.refl w2 (some be)) 0 .nilIface
    have hs:=hg.size
    have hs1:=hg1.size
    have hs2:=hg2.size
    have hkk:∀ k,k < w1.heap.size→k≠bo→k≠be→(w2.setCell ⟨be,0,none⟩ .nilIface).heap[k]?=w1.heap[k]?:=fun k h3 h4 h5=>(hg2.block k (by omega) (by simp;omega)).trans (hg1.block k h3 (by simp;omega))
    refine ⟨po,v,S,(hg2.block bo (by omega) (by simp;omega)).trans h1,h2,ObjO.keep (fun k hk=>⟨hk,hkk k (hS k hk).2 (by have:=hS k hk;omega) (by have:=hS k hk;omega)⟩) _ _ hO,fun k hk=>by have:=hS k hk;omega,hC,(hkk b (by omega) (by omega) (by omega)).trans hL,hg2.os.trans (hg1.os.trans hg.os),hg2.tape.trans (hg1.tape.trans hg.tape),hg2.output.trans (hg1.output.trans hg.output),by omega,fun k h3 h4 h5 h6=>(hkk k (by omega) h5 h6).trans (hg.block k h3 (by simp;omega))⟩)
  have hno:=hO.nil_or
  clear hO hS hC hL hg ho1 he1 hc
  rcases hno with ⟨_,rfl⟩ | ⟨_,t,u,rfl⟩
  · go_wp2_with fail
    go_end0
    exact ⟨rfl,H.out⟩
  · go_wp2_with fail
    go_end0
    exact ⟨rfl,H.out⟩
end Go.Proofs.YtfkecmlmnhbmoaaGreatDoor
namespace Go.Proofs.YtfkecmlmnhbmoaaGreatDoor
open Go Go.RowKit
open Go.Maps
def ReadPost (nn:Nat→Prop) (n:Nat) (w w':World) (x:PV) (r:By) (e:Ending):Prop :=
  ∃ po ks vs S,e=.returned (.tuple #[objV (sortP po) ks vs,.string (bs r),.bool true])∧IsO S w' (sortP po) ks vs∧(∀ k,S k→w.heap.size≤k∧k < w'.heap.size)∧Corr nn n po x∧w.grownBy w' none
theorem alloc5 (w:World) (o1 o2 o3 o4 o5:Obj):∃ W,W=((((w.alloc o1).alloc o2).alloc o3).alloc o4).alloc o5∧W.heap[w.heap.size]?=some o1∧W.heap[w.heap.size + 1]?=some o2∧W.heap[w.heap.size + 1 + 1]?=some o3∧W.heap[w.heap.size + 1 + 1 + 1]?=some o4∧W.heap[w.heap.size + 1 + 1 + 1 + 1]?=some o5∧W.heap.size=w.heap.size + 5∧w.grownBy W none:=by
  refine ⟨_,rfl,?_,?_,?_,?_,?_,by simp,gr_alloc (gr_alloc (gr_alloc (gr_alloc (gr_alloc (World.grownBy.refl w none) _) _) _) _) _⟩
  · rw [Below.heap_alloc _ _ _ (by first | omega | (simp;omega) | simp),Below.heap_alloc _ _ _ (by first | omega | (simp;omega) | simp),Below.heap_alloc _ _ _ (by simp;omega),Below.heap_alloc _ _ _ (by simp)];exact heap_alloc_new _ _
  · rw [Below.heap_alloc _ _ _ (by first | omega | (simp;omega) | simp),Below.heap_alloc _ _ _ (by first | omega | (simp;omega) | simp),Below.heap_alloc _ _ _ (by simp)]
    have:=heap_alloc_new (w.alloc o1) o2
    simpa using this
  · rw [Below.heap_alloc _ _ _ (by first | omega | (simp;omega) | simp),Below.heap_alloc _ _ _ (by simp)]
    have:=heap_alloc_new ((w.alloc o1).alloc o2) o3
    simpa using this
  · rw [Below.heap_alloc _ _ _ (by simp)]
    have:=heap_alloc_new (((w.alloc o1).alloc o2).alloc o3) o4
    simpa using this
  · have:=heap_alloc_new ((((w.alloc o1).alloc o2).alloc o3).alloc o4) o5
    simpa using this
set_option maxRecDepth 100000 in
set_option maxHeartbeats 40000000 in
theorem read_ret {w5:World} {B:Nat} {v0 v1 v2 v3 v4 v5 v6 u5 u6:Value} {tmps:Array Value} {R:Ending→World→Prop} (h4:tmps.getD 4 undef=.pointer (some ⟨B,0,none⟩)) (h5:tmps.getD 5 undef=u5) (h6:tmps.getD 6 undef=u6)
    (hz:w5.heap[B]?=some (.cells #[v0,v1,v2,v3,v4,v5,v6] 26 (0,0))) (hR:R (.returned (.tuple #[.agg #[v0,v1,v2,v3,v4,v5,v6],u5,u6])) w5):bodyPost Tryz.prog Tryz.f29 R Exit.ret { tmps:=tmps,defers:=[] } w5:=by
  obtain ⟨y0,y1,y2,y3,y4,y5,y6,yf⟩:=cells7 hz
  simp only [Array.getD_eq_getD_getElem?] at h4 h5 h6
  exact bodyPost_ret (v:=.tuple #[.agg #[v0,v1,v2,v3,v4,v5,v6],u5,u6]) (by simp [results,Tryz.results29,go_sem,h4,h5,h6,y0,y1,y2,y3,y4,y5,y6]) rfl hR
set_option maxRecDepth 100000 in
set_option maxHeartbeats 40000000 in
theorem read29_any (pf:By→Nat) (nn:Nat→Prop) (W0:World) (n:Nat) (hC:ObjC pf nn W0 n) (hn:n≤100) (w:World) (hE:Env W0 w) (l:By) (x:PV) (r:By) (hl:l.length≤100000) (h:rdV pf n l false=some (x,r,false)) :
    Calls Tryz.prog 29 #[.string (bs l),.func (.func 30) #[] #[]] w fun e w'=>ReadPost nn n w w' x r e:=by
  have hmf:∀ (fn:Fn) (first cap:Array Value) (w:World),(Instr.makeFunc fn first cap).run Tryz.prog w=.ok (.func fn first cap) w:=fun _ _ _ _=>rfl
  obtain ⟨W5,hW5,q0,q1,q2,q3,q4,hsz,hG5⟩:=alloc5 w (.cells #[.func (.func 30) #[] #[]] 62) Z26 (.cells #[.string (bs l)] 9) (.cells #[.nilIface] 50) (.cells #[.nilIface] 92)
  have hG6:W5.grownBy (W5.alloc (.cells #[.bool false] 4)) none:=gr_alloc (World.grownBy.refl _ _) _
  have hkp:∀ k o,W5.heap[k]?=some o→(W5.alloc (.cells #[.bool false] 4)).heap[k]?=some o:=fun k o hk=>(hG6.block k (Array.getElem?_eq_some_iff.1 hk).1 (by simp)).trans hk
  have hp:=parse30_any pf nn W0 n hC hn (W5.alloc (.cells #[.bool false] 4)) ((hE.grown0 hG5).grown0 hG6) (w.heap.size + 1 + 1) l x r (hkp _ _ q2) hl (by have:=hE.1;omega) h
  have h54:=rd54_any nn n (W5.alloc (.cells #[.bool false] 4)) w.heap.size (w.heap.size + 1 + 1) (w.heap.size + 1 + 1 + 1) (w.heap.size + 1 + 1 + 1 + 1) x r (hkp _ _ q0) (hkp _ _ q3) (hkp _ _ q4) (by omega) (by omega) hp
  have hcalm:=calm_any W5 _ (fun w'=>RdPost nn n (W5.alloc (.cells #[.bool false] 4)) w' (w.heap.size + 1 + 1) (w.heap.size + 1 + 1 + 1) (w.heap.size + 1 + 1 + 1 + 1) x r) (h54.mono (by
    rintro e w' ⟨rfl,hR⟩
    refine ⟨rfl,?_,hR⟩
    obtain ⟨po,v,S,_,_,_,_,_,_,_,_,_,_,hfr⟩:=hR
    exact (hfr W5.heap.size (by simp) (by omega) (by omega) (by omega)).trans (heap_alloc_new W5 _)))
  have Hq1:=Lib.hid q1
  have HG5:=Lib.hid hG5
  have Hsz:=Lib.hid hsz
  rw [hW5] at hcalm
  clear hC hE h hp h54 hkp hG6 q0 q1 q2 q3 q4 hG5 hsz
  unfold Z26 at hcalm
  go_enter Tryz.func29,Tryz.ntmps29
  go_wp2_with fail
  refine hcalm.mono ?_
  unfold Z26 at hW5
  rw [←hW5]
  rintro e w2 ⟨rfl,w1,hR,hz,rfl⟩
  obtain ⟨po,v,S,ho,he,hO,hS,hCo,hL,hos,htp,hout,hsz1,hfr⟩:=hR
  have hsz6:(W5.alloc (.cells #[.bool false] 4)).heap.size=w.heap.size + 6:=by simp;exact Hsz.out
  have hs5:=Hsz.out
  have hset:=gr_set (World.grownBy.refl w1 (some W5.heap.size)) 0 (.bool true)
  obtain ⟨w2,hw2⟩:∃ w2,w2=w1.setCell ⟨W5.heap.size,0,none⟩ (.bool true):=⟨_,rfl⟩
  rw [←hw2] at hset ⊢
  have hkk:∀ k,k < w1.heap.size→k≠w.heap.size + 5→w2.heap[k]?=w1.heap[k]?:=fun k h1 h2=>hset.block k h1 (by simp;omega)
  have hG2:w.grownBy w2 none:=by
    have hg5:=HG5.out
    refine ⟨hset.os.trans (hos.trans hg5.os),hset.tape.trans (htp.trans hg5.tape),hset.output.trans (hout.trans hg5.output),by have:=hset.size;omega,fun k hk _=>?_⟩
    refine (hkk k (by omega) (by omega)).trans ((hfr k (by omega) (by omega) (by omega) (by omega)).trans ?_)
    exact (Below.heap_alloc _ _ _ (by omega)).trans (hg5.block k hk (by simp))
  have ho2:=(hkk _ (by omega) (by omega)).trans ho
  have he2:=(hkk _ (by omega) (by omega)).trans he
  have hL2:LineAt w2 (w.heap.size + 1 + 1) r:=(hkk _ (by omega) (by omega)).trans hL
  have hz2:w2.heap[w.heap.size + 1]?=some Z26:=by
    refine (hkk _ (by omega) (by omega)).trans ((hfr _ (by omega) (by omega) (by omega) (by omega)).trans ?_)
    exact (Below.heap_alloc _ _ _ (by omega)).trans Hq1.out
  have hs2:w.heap.size + 6≤w2.heap.size:=by have:=hset.size;omega
  have hO2:=ObjO.keep (S':=S) (fun k hk=>⟨hk,hkk k (hS k hk).2 (by have:=hS k hk;omega)⟩) _ _ hO
  have htell:=tellC_all nn n po x S w2 v hCo hO2 (fun k hk=>by have:=hS k hk;have:=hset.size;omega)
  have cv:w2.cell? ⟨w.heap.size + 1 + 1 + 1,0,none⟩=some v:=by simp [World.cell?,ho2]
  have ce:w2.cell? ⟨w.heap.size + 1 + 1 + 1 + 1,0,none⟩=some .nilIface:=by simp [World.cell?,he2]
  have Hz2:=Lib.hid hz2
  have HL2:=Lib.hid hL2
  have HG2:=Lib.hid hG2
  have Hs2:=Lib.hid hs2
  have HCo:=Lib.hid hCo
  clear ho he hO hS hCo hL hos htp hout hsz1 hfr hsz6 hs5 hset hw2 hkk hG2 ho2 he2 hL2 hz2 hs2 hO2 hz hcalm hW5
  go_wp2_with fail
  refine htell.mono ?_
  rintro e w3 ⟨ks,vs,S3,rfl,hIs,hS3,hg3⟩
  obtain ⟨⟨ko,kn,kc,rfl⟩,⟨vo,vn,vc,rfl⟩⟩:=IsO.slices hIs
  have hz3:=(hg3.block _ (by have:=Hs2.out;omega) (by simp)).trans Hz2.out
  unfold Z26 at hz3
  obtain ⟨z0,z1,z2,z3,z4,z5,z6,zf⟩:=cells7 hz3
  have hL3:=HL2.out.keep hg3 (by simp)
  obtain ⟨c3,f3⟩:=hL3.cell
  have Hz3:=Lib.hid hz3
  have HIs:=Lib.hid hIs
  have HS3:=Lib.hid hS3
  have HG3:=Lib.hid (HG2.out.trans hg3)
  have Hsz3:=Lib.hid hg3.size
  have HL3:=Lib.hid hL3
  obtain ⟨q,hq⟩:∃ q,q=sortP po:=⟨_,rfl⟩
  rw [←hq] at HIs ⊢
  have Hq:=Lib.hid hq
  clear hg3 hz3 hL3 hIs hS3 htell cv ce hq
  unfold objV
  go_wp2_with fail
  have hz4:=set7_at Hz3.out (.int .i64 (kO q)) (.int .i64 (iO q)) (.int .i64 (gO q)) (.float .f64 (rO q)) (.string (bs (tO q))) (.slice ko kn kc) (.slice vo vn vc)
  have hk4:=fun k hk=>set7_other w3 (w.heap.size + 1) k (.int .i64 (kO q)) (.int .i64 (iO q)) (.int .i64 (gO q)) (.float .f64 (rO q)) (.string (bs (tO q))) (.slice ko kn kc) (.slice vo vn vc) hk
  have hs4:=set7_size w3 (w.heap.size + 1) (.int .i64 (kO q)) (.int .i64 (iO q)) (.int .i64 (gO q)) (.float .f64 (rO q)) (.string (bs (tO q))) (.slice ko kn kc) (.slice vo vn vc)
  have hG4:=set7_gr HG3.out (B:=w.heap.size + 1) (by omega) (.int .i64 (kO q)) (.int .i64 (iO q)) (.int .i64 (gO q)) (.float .f64 (rO q)) (.string (bs (tO q))) (.slice ko kn kc) (.slice vo vn vc)
  obtain ⟨w4,hw4⟩:∃ w4,w4=set7 w3 (w.heap.size + 1) (.int .i64 (kO q)) (.int .i64 (iO q)) (.int .i64 (gO q)) (.float .f64 (rO q)) (.string (bs (tO q))) (.slice ko kn kc) (.slice vo vn vc):=⟨_,rfl⟩
  rw [←hw4] at hz4 hk4 hs4 hG4
  unfold set7 at hw4
  rw [←hw4]
  have hL4:LineAt w4 (w.heap.size + 1 + 1) r:=(hk4 _ (by omega)).trans HL3.out
  clear z0 z1 z2 z3 z4 z5 z6 zf c3 f3 hw4
  obtain ⟨z0,z1,z2,z3,z4,z5,z6,zf⟩:=cells7 hz4
  obtain ⟨c4,f4⟩:=hL4.cell
  have Hz4:=Lib.hid hz4
  have HG4:=Lib.hid hG4
  have Hk4:=Lib.hid (And.intro hk4 hs4)
  clear hz4 hk4 hs4 hG4 hL4
  go_region
  have hz5:=set7_at Hz4.out (.int .i64 (kO q)) (.int .i64 (iO q)) (.int .i64 (gO q)) (.float .f64 (rO q)) (.string (bs (tO q))) (.slice ko kn kc) (.slice vo vn vc)
  have hk5:=fun k hk=>set7_other w4 (w.heap.size + 1) k (.int .i64 (kO q)) (.int .i64 (iO q)) (.int .i64 (gO q)) (.float .f64 (rO q)) (.string (bs (tO q))) (.slice ko kn kc) (.slice vo vn vc) hk
  have hs5:=set7_size w4 (w.heap.size + 1) (.int .i64 (kO q)) (.int .i64 (iO q)) (.int .i64 (gO q)) (.float .f64 (rO q)) (.string (bs (tO q))) (.slice ko kn kc) (.slice vo vn vc)
  have hG5:=set7_gr HG4.out (B:=w.heap.size + 1) (by omega) (.int .i64 (kO q)) (.int .i64 (iO q)) (.int .i64 (gO q)) (.float .f64 (rO q)) (.string (bs (tO q))) (.slice ko kn kc) (.slice vo vn vc)
  obtain ⟨w5,hw5⟩:∃ w5,w5=set7 w4 (w.heap.size + 1) (.int .i64 (kO q)) (.int .i64 (iO q)) (.int .i64 (gO q)) (.float .f64 (rO q)) (.string (bs (tO q))) (.slice ko kn kc) (.slice vo vn vc):=⟨_,rfl⟩
  rw [←hw5] at hz5 hk5 hs5 hG5
  unfold set7 at hw5
  rw [←hw5]
  obtain ⟨w6,hw6⟩:∃ w6,w6=w5.drew:=⟨_,rfl⟩
  have hh:w6.heap=w5.heap:=by rw [hw6];rfl
  have hG6:w.grownBy w6 none:=by rw [hw6];exact gr_drew hG5
  rw [←hw6]
  rw [←hh] at hz5 hk5 hs5
  clear hw5 hw6 hG5
  have Hz5:=Lib.hid hz5
  have HG6:=Lib.hid hG6
  have Hk5:=Lib.hid (And.intro hk5 hs5)
  clear hz5 hk5 hs5 hG6 hh z0 z1 z2 z3 z4 z5 z6 zf
  have y30:∀ (a b c:Value),([a,b,c]:List Value)[0]?=some a:=fun _ _ _=>rfl
  have y31:∀ (a b c:Value),([a,b,c]:List Value)[1]?=some b:=fun _ _ _=>rfl
  have y32:∀ (a b c:Value),([a,b,c]:List Value)[2]?=some c:=fun _ _ _=>rfl
  go_wp2_with fail
  refine read_ret rfl rfl rfl Hz5.out ?_
  have hs2:=Hs2.out
  have hs3:=Hsz3.out
  have hs4:=Hk4.out.2
  have hs5:=Hk5.out.2
  refine ⟨po,.slice ko kn kc,.slice vo vn vc,S3,by rw [←Hq.out];rfl,?_,fun k hk=>by have:=HS3.out k hk;omega,HCo.out,HG6.out⟩
  rw [←Hq.out]
  exact IsO.keep (fun k hk=>⟨hk,by
    have:=HS3.out k hk
    exact (Hk5.out.1 k (by omega)).trans (Hk4.out.1 k (by omega))⟩) _ _ _ HIs.out
end Go.Proofs.YtfkecmlmnhbmoaaGreatDoor
namespace Go.Proofs.YtfkecmlmnhbmoaaGreatDoor
open Go Go.RowKit
open Go.Maps
set_option maxRecDepth 100000 in
set_option maxHeartbeats 40000000 in
theorem parse_ret {w5:World} {B:Nat} {v0 v1 v2 v3 v4 v5 v6 u5 u6:Value} {tmps:Array Value} {R:Ending→World→Prop} (h4:tmps.getD 2 undef=.pointer (some ⟨B,0,none⟩)) (h5:tmps.getD 3 undef=u5) (h6:tmps.getD 4 undef=u6)
    (hz:w5.heap[B]?=some (.cells #[v0,v1,v2,v3,v4,v5,v6] 26 (0,0))) (hR:R (.returned (.tuple #[.agg #[v0,v1,v2,v3,v4,v5,v6],u5,u6])) w5):bodyPost Tryz.prog Tryz.f13 R Exit.ret { tmps:=tmps,defers:=[] } w5:=by
  obtain ⟨y0,y1,y2,y3,y4,y5,y6,yf⟩:=cells7 hz
  simp only [Array.getD_eq_getD_getElem?] at h4 h5 h6
  exact bodyPost_ret (v:=.tuple #[.agg #[v0,v1,v2,v3,v4,v5,v6],u5,u6]) (by simp [results,Tryz.results13,go_sem,h4,h5,h6,y0,y1,y2,y3,y4,y5,y6]) rfl hR
set_option maxRecDepth 100000 in
set_option maxHeartbeats 40000000 in
theorem parse13_any (pf:By→Nat) (nn:Nat→Prop) (W0:World) (n:Nat) (hC:ObjC pf nn W0 n) (hn:n≤100) (w:World) (hE:Env W0 w) (l:By) (x:PV) (r:By) (hl:l.length≤100000) (h:rdV pf n l false=some (x,r,false)) :
    Calls Tryz.prog 13 #[.string (bs l)] w fun e w'=>ReadPost nn n w w' x r e:=by
  have hz0:=heap_alloc_new w Z26
  have hg0:w.grownBy (w.alloc Z26) none:=gr_alloc (World.grownBy.refl w none) _
  have hc:=read29_any pf nn W0 n hC hn (w.alloc Z26) (hE.grown0 hg0) l x r hl h
  have hs0:(w.alloc Z26).heap.size=w.heap.size + 1:=by simp
  have Hs0:=Lib.hid hs0
  clear hC hE h hs0
  unfold Z26 at *
  go_enter Tryz.func13,Tryz.ntmps13
  go_wp2_with fail
  refine hc.mono ?_
  rintro e w3 ⟨po,ks,vs,S3,rfl,hIs,hS3,hCo,hg3⟩
  obtain ⟨⟨ko,kn,kc,rfl⟩,⟨vo,vn,vc,rfl⟩⟩:=IsO.slices hIs
  have hz3:=(hg3.block _ (by simp) (by simp)).trans hz0
  obtain ⟨z0,z1,z2,z3,z4,z5,z6,zf⟩:=cells7 hz3
  have Hz3:=Lib.hid hz3
  have HIs:=Lib.hid hIs
  have HS3:=Lib.hid hS3
  have HCo:=Lib.hid hCo
  have HG3:=Lib.hid (hg0.trans hg3)
  obtain ⟨q,hq⟩:∃ q,q=sortP po:=⟨_,rfl⟩
  rw [←hq] at HIs ⊢
  have Hq:=Lib.hid hq
  clear hg3 hz3 hIs hS3 hq hg0 hz0 hc hCo
  unfold objV
  have y30:∀ (a b c:Value),([a,b,c]:List Value)[0]?=some a:=fun _ _ _=>rfl
  have y31:∀ (a b c:Value),([a,b,c]:List Value)[1]?=some b:=fun _ _ _=>rfl
  have y32:∀ (a b c:Value),([a,b,c]:List Value)[2]?=some c:=fun _ _ _=>rfl
  go_wp2_with fail
  have hz4:=set7_at Hz3.out (.int .i64 (kO q)) (.int .i64 (iO q)) (.int .i64 (gO q)) (.float .f64 (rO q)) (.string (bs (tO q))) (.slice ko kn kc) (.slice vo vn vc)
  have hk4:=fun k hk=>set7_other w3 w.heap.size k (.int .i64 (kO q)) (.int .i64 (iO q)) (.int .i64 (gO q)) (.float .f64 (rO q)) (.string (bs (tO q))) (.slice ko kn kc) (.slice vo vn vc) hk
  have hs4:=set7_size w3 w.heap.size (.int .i64 (kO q)) (.int .i64 (iO q)) (.int .i64 (gO q)) (.float .f64 (rO q)) (.string (bs (tO q))) (.slice ko kn kc) (.slice vo vn vc)
  have hG4:=set7_gr HG3.out (B:=w.heap.size) (Nat.le_refl _) (.int .i64 (kO q)) (.int .i64 (iO q)) (.int .i64 (gO q)) (.float .f64 (rO q)) (.string (bs (tO q))) (.slice ko kn kc) (.slice vo vn vc)
  obtain ⟨w4,hw4⟩:∃ w4,w4=set7 w3 w.heap.size (.int .i64 (kO q)) (.int .i64 (iO q)) (.int .i64 (gO q)) (.float .f64 (rO q)) (.string (bs (tO q))) (.slice ko kn kc) (.slice vo vn vc):=⟨_,rfl⟩
  rw [←hw4] at hz4 hk4 hs4 hG4
  unfold set7 at hw4
  rw [←hw4]
  refine parse_ret rfl rfl rfl hz4 ?_
  have hs0:=Hs0.out
  refine ⟨po,.slice ko kn kc,.slice vo vn vc,S3,by rw [←Hq.out];rfl,?_,fun k hk=>by have:=HS3.out k hk;omega,HCo.out,hG4⟩
  rw [←Hq.out]
  exact IsO.keep (fun k hk=>⟨hk,hk4 k (by have:=HS3.out k hk;omega)⟩) _ _ _ HIs.out
end Go.Proofs.YtfkecmlmnhbmoaaGreatDoor
namespace Go.Proofs.YtfkecmlmnhbmoaaGreatDoor
open Go Go.RowKit
open Go.Maps
theorem bs_all {s:By} {P:UInt8→Prop} (h:∀ c∈s,P c) (i:Nat) (hi:i < (bs s).size):P ((bs s)[i]):=by
  have hl:i < s.length:=by rwa [bs_size] at hi
  exact h _ (List.getElem_mem (l:=s) hl)
set_option maxRecDepth 100000 in
set_option maxHeartbeats 40000000 in
theorem nameable_any (s:By) (h:∀ c∈s,(c.toNat:Int)≠0) (hl:s.length≤1000000) (w:World):Calls Tryz.prog 35 #[.string (bs s)] w fun e w'=>e=.returned (.bool true)∧w'=w:=by
  have hne:=fun (i:Nat) (hi:i < (bs s).size)=>bs_all (P:=fun c=>((c.toNat:Int) == 0)=false) (fun c hc=>by simpa using h c hc) i hi
  have hsz:(bs s).size≤1000000:=by rw [bs_size];exact hl
  generalize bs s=z at hne hsz ⊢
  have Hne:=Lib.hid hne
  clear hne h hl
  go_enter Tryz.func35,Tryz.ntmps35
  go_wp2_with fail
  go_loopg [6] z.size (fun g t6 wr=>∃ i,t6=.int .i64 (i:Nat)∧i≤z.size∧g=z.size - i∧wr=w)
  case atStart=>exact ⟨0,rfl,Nat.zero_le _,rfl,rfl⟩
  case round =>
    obtain ⟨i,rfl,hi,hg,rfl⟩:=hrel
    have Hg:=Lib.hid hg
    clear hg
    by_cases hiz:i < z.size
    · have h0:=Hne.out i hiz
      have hnm:(i:Int) < z.size:=by omega
      have hwi:IntKind.i64.wrap ((i:Int) + 1)=(i:Int) + 1:=IntWalk.i64_in _ (by omega)
      go_wp2_with fail
      go_roundg (z.size - (i + 1))
      case measure=>rw [Hg.out];omega
      case rel=>exact ⟨i + 1,by simp,by omega,rfl,rfl⟩
    · have hie:i=z.size:=by omega
      have hnm:¬(i:Int) < z.size:=by omega
      go_wp2_with fail
      go_ret
      exact ⟨rfl,rfl⟩
end Go.Proofs.YtfkecmlmnhbmoaaGreatDoor
namespace Go.Proofs.YtfkecmlmnhbmoaaGreatDoor
open Go Go.RowKit
open Go.Maps
set_option maxRecDepth 100000 in
set_option maxHeartbeats 40000000 in
theorem litbytes_any (s t:By) (h:litF (40::(s ++ [41])) 0 []=some (t,[])) (hl:s.length≤1000000) (w:World):Calls Tryz.prog 33 #[.string (bs s)] w fun e w'=>e=.returned (.tuple #[.string (bs t),.bool true])∧w.grownBy w' none:=by
  have e1:(⟨#[40]⟩:ByteArray)=bs [40]:=rfl
  have e2:(⟨#[41]⟩:ByteArray)=bs [41]:=rfl
  have ha:bs [40] ++ bs s=bs (40::s):=bs_append [40] s
  have ha2:bs (40::s) ++ bs [41]=bs (40::(s ++ [41])):=bs_append (40::s) [41]
  have hn1:¬9223372036854775807 < (bs [40]).size + (bs s).size:=by rw [bs_size,bs_size];simp;omega
  have hn2:¬9223372036854775807 < (bs (40::s)).size + (bs [41]).size:=by rw [bs_size,bs_size];simp;omega
  have hR0:∀ z,z=bs (40::(s ++ [41]))→RdAt (w.alloc (.cells #[.string z,.int .i64 0,.int .i64 0,.int .i64 0,.bool false,.bool false] 57 (0,0))) w.heap.size z [] (40::(s ++ [41])) 0 0 false false:=fun z hz=>⟨by rw [hz,bs_list];rfl,heap_alloc_new _ _⟩
  have hg0:∀ o,w.grownBy (w.alloc o) none:=fun o=>gr_alloc (World.grownBy.refl w none) _
  have hz3:(bs (40::(s ++ [41]))).size≤140737488351240:=by rw [bs_size];simp;omega
  generalize hz:bs (40::(s ++ [41]))=z at *
  have hR1:=hR0 z rfl
  generalize bs (40::s)=z1 at *
  generalize bs s=z0 at *
  have hl46:=lit_any _ _ _ _ _ _ _ _ _ hR1 hz3
  rw [h] at hl46
  have Hg0:=Lib.hid hg0
  have Hsz:=Lib.hid (show (z.size:Int)=(40::(s ++ [41])).length by rw [←hz,bs_size])
  clear hg0 hR0 hR1 hz3 h hz
  go_enter Tryz.func33,Tryz.ntmps33
  go_wp2_with fail
  refine hl46.mono ?_
  rintro e w1 ⟨rfl,⟨p',hR⟩,hg1⟩
  have hG1:w.grownBy w1 none:=gr_noneThen (Hg0.out _) hg1 (fun k hk=>by injection hk with hk;omega)
  obtain ⟨c0,c1,c2,c3,c4,c5,cf⟩:=hR.cells
  have hps:p'.length=z.size:=by have:=hR.size;simpa using this.symm
  rw [hps] at c1
  have HG1:=Lib.hid hG1
  have Hbt:=Lib.hid (show (⟨t.toArray⟩:ByteArray)=bs t from rfl)
  clear hR hg1 hG1 hl46 hps
  go_wp2_with fail
  go_quiet ((first|(go_at_call 42;with_reducible first|exact qaw _|exact qbw _)|(go_at_call 43;with_reducible first|exact qap _|exact qbp _)|(go_at_call 52;with_reducible first|exact qad _|exact qbd _)|(go_at_call 76;with_reducible first|exact qar _|exact qbr _)|(go_at_call 75;with_reducible first|exact qag _|exact qbg _)));go_wp2_with fail
  go_ret2
  exact ⟨rfl,by first | exact HG1.out | exact gr_drew HG1.out | exact gr_drewN HG1.out _⟩
theorem hexVal_nn {s:By} (h:∀ c∈s,0≤hexVal (c.toNat:Int)) (i:Nat) (hi:i < (bs s).size):¬hexVal (((bs s)[i]).toNat:Int) < 0:=by
  have:0≤hexVal (((bs s)[i]).toNat:Int):=bs_all (P:=fun c=>0≤hexVal (c.toNat:Int)) h i hi
  omega
set_option maxRecDepth 100000 in
set_option maxHeartbeats 40000000 in
theorem hexbytes_any (s t:By) (hs:∀ c∈s,0≤hexVal (c.toNat:Int)) (h:hexF (s ++ [62]) false 0 [] false=(0,t,[],false)) (hl:s.length≤1000000) (w:World):Calls Tryz.prog 34 #[.string (bs s)] w fun e w'=>e=.returned (.tuple #[.string (bs t),.bool true])∧w.grownBy w' none:=by
  have e1:(⟨#[60]⟩:ByteArray)=bs [60]:=rfl
  have e2:(⟨#[62]⟩:ByteArray)=bs [62]:=rfl
  have ha:bs [60] ++ bs s=bs (60::s):=bs_append [60] s
  have ha2:bs (60::s) ++ bs [62]=bs (60::(s ++ [62])):=bs_append (60::s) [62]
  have hn1:¬9223372036854775807 < (bs [60]).size + (bs s).size:=by rw [bs_size,bs_size];simp;omega
  have hn2:¬9223372036854775807 < (bs (60::s)).size + (bs [62]).size:=by rw [bs_size,bs_size];simp;omega
  have hR0:∀ z,z=bs (60::(s ++ [62]))→RdAt (w.alloc (.cells #[.string z,.int .i64 0,.int .i64 0,.int .i64 0,.bool false,.bool false] 57 (0,0))) w.heap.size z [] (60::(s ++ [62])) 0 0 false false:=fun z hz=>⟨by rw [hz,bs_list];rfl,heap_alloc_new _ _⟩
  have hg0:∀ o,w.grownBy (w.alloc o) none:=fun o=>gr_alloc (World.grownBy.refl w none) _
  have hz3:(bs (60::(s ++ [62]))).size≤140737488351240:=by rw [bs_size];simp;omega
  have hvv:=hexVal_nn hs
  have hsz:(bs s).size≤1000000:=by rw [bs_size];exact hl
  generalize hz:bs (60::(s ++ [62]))=z at *
  have hR1:=hR0 z rfl
  generalize bs (60::s)=z1 at *
  generalize bs s=z0 at *
  have hl46:=hexs_any _ _ _ _ _ _ _ _ _ _ hR1 hz3
  rw [h] at hl46
  have Hg0:=Lib.hid hg0
  have Hvv:=Lib.hid hvv
  have Hl46:=Lib.hid hl46
  clear hg0 hR0 hR1 hz3 h hz hs hvv hl46
  go_enter Tryz.func34,Tryz.ntmps34
  go_wp2_with fail
  go_loopg [9] z0.size (fun g t9 wr=>∃ i,t9=.int .i64 (i:Nat)∧i≤z0.size∧g=z0.size - i∧wr=w)
  case atStart=>exact ⟨0,rfl,Nat.zero_le _,rfl,rfl⟩
  case round =>
    obtain ⟨i,rfl,hi,hg,rfl⟩:=hrel
    have Hg:=Lib.hid hg
    clear hg
    by_cases hiz:i < z0.size
    · have hrg:=bi_range (z0[i])
      have hx:=hex_any ((z0[i]).toNat:Int) hrg.1 hrg.2
      have hv:¬hexVal ((z0[i]).toNat:Int) < 0:=by have:=Hvv.out i hiz;omega
      generalize hexVal ((z0[i]).toNat:Int)=hh at hx hv
      have hnm:(i:Int) < z0.size:=by omega
      have hwi:IntKind.i64.wrap ((i:Int) + 1)=(i:Int) + 1:=IntWalk.i64_in _ (by omega)
      clear hrg
      go_wp2_with fail
      refine (hx _).mono ?_
      rintro e w2 ⟨rfl,hw2⟩
      subst w2
      go_wp2_with fail
      go_roundg (z0.size - (i + 1))
      case measure=>rw [Hg.out];omega
      case rel=>exact ⟨i + 1,by simp,by omega,rfl,rfl⟩
    · have hie:i=z0.size:=by omega
      have hnm:¬(i:Int) < z0.size:=by omega
      go_wp2_with fail
      refine Hl46.out.mono ?_
      rintro e w1 ⟨rfl,⟨p',hR⟩,hg1⟩
      have hG1:wr.grownBy w1 none:=gr_noneThen (Hg0.out _) hg1 (fun k hk=>by injection hk with hk;omega)
      obtain ⟨c0,c1,c2,c3,c4,c5,cf⟩:=hR.cells
      simp only [if_true] at c2
      have HG1:=Lib.hid hG1
      have Hbt:=Lib.hid (show (⟨t.toArray⟩:ByteArray)=bs t from rfl)
      clear hR hg1 hG1
      go_wp2_with fail
      go_quiet ((first|(go_at_call 42;with_reducible first|exact qaw _|exact qbw _)|(go_at_call 43;with_reducible first|exact qap _|exact qbp _)|(go_at_call 52;with_reducible first|exact qad _|exact qbd _)|(go_at_call 76;with_reducible first|exact qar _|exact qbr _)|(go_at_call 75;with_reducible first|exact qag _|exact qbg _)));go_wp2_with fail
      go_ret2
      exact ⟨rfl,by first | exact HG1.out | exact gr_drew HG1.out | exact gr_drewN HG1.out _⟩
end Go.Proofs.YtfkecmlmnhbmoaaGreatDoor
