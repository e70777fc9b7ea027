/- Parts B8. -/
import Derived.Test.YtfkecmlmnhbmoaaGreatDoorW21
set_option linter.unusedVariables false
set_option linter.unusedSimpArgs false
set_option maxRecDepth 100000
set_option maxHeartbeats 40000000
namespace Go.Proofs.YtfkecmlmnhbmoaaGreatDoor
open Go Go.RowKit
section
variable {w wr:World} {b:Nat} {kd:Int} {kv vs:Value} {keys:List By} {acc:List PV} {S:Nat→Prop} {cells:List Value}
theorem ColX.close2 (h:ColX w wr b kv vs keys acc S cells){ko vo:Value}(hA:wr.heap[w.heap.size+1]?=some (AB kd ko vo)):ColG w ((wr.setCell ⟨w.heap.size+1,5,none⟩ kv).setCell ⟨w.heap.size+1,6,none⟩ vs) b kd kv vs keys acc S cells :=
 ⟨(h.setA 5 kv).setA 6 vs,by simp[World.setCell,Array.getElem?_modify,hA,AB]⟩
theorem ColX.bad2 {w4 w5:World}(h4:ColX w w4 b kv vs keys acc S cells){ko vo:Value}(hA4:w4.heap[w.heap.size+1]?=some (AB kd ko vo)){o:Obj}(hgrow:(w4.alloc o).grownBy w5 vs.ownBlock)(u v:Value) :
  w.grownBy ((w5.setCell ⟨w.heap.size+1,5,none⟩ u).setCell ⟨w.heap.size+1,6,none⟩ v) (some b)∧((w5.setCell ⟨w.heap.size+1,5,none⟩ u).setCell ⟨w.heap.size+1,6,none⟩ v).heap[w.heap.size]?=some (.cells #[.int .i64 0,.int .i64 0,.int .i64 0,.float .f64 0,.string ⟨#[]⟩,.slice none 0 0,.slice none 0 0] 30 (0,0))∧((w5.setCell ⟨w.heap.size+1,5,none⟩ u).setCell ⟨w.heap.size+1,6,none⟩ v).heap[w.heap.size+1]?=some (AB kd u v):=by
 have hb:=h4.hb;have hvl:=World.ownsRow.lt h4.hO;have hg45:=gr_alloc_then hgrow;have hA5:w5.heap[w.heap.size+1]?=some (AB kd ko vo):=keep hg45 hA4 (fun e=>by have:=(hvl _ e.symm).1;omega);refine⟨gr_setM (gr_setM (gr_then h4.hG hg45 (fun j hj=>by have:=(hvl j hj).1;omega)) (by omega) _ _) (by omega) _ _,?_,?_⟩
 ·rw[Below.heap_setCell _ _ _ _ (by simp),Below.heap_setCell _ _ _ _ (by simp)];exact keep hg45 h4.hZ (fun e=>by have:=(hvl _ e.symm).1;omega)
 ·simp[World.setCell,Array.getElem?_modify,hA5,AB]
end
theorem dict_good {f:By→Bool→Rd PV}{m:Nat}{l l2 key:By}{c:UInt8}{o oa:Bool}{ks:List By}{acc:List PV}{x:PV}{r:By}{o2:Bool}{bad:Int}(h1:passM false l o=(c::l2,oa))(h2:is2 (c::l2) 62=false)(h3:headIs (c::l2) (· == 47)=true)(hk:key=(nameB (wordT l2) []).getD [])(hb:bad=nmBad 0 (nameB (wordT l2) []))(h4:bad=0∧key∉ks)(h5:decide ((35:UInt8)∈key)=false)(h6:f (wordR l2) (wordO l2 oa)=some (x,r,o2)) :
  rdDict f (m+1) l o ks acc=rdDict f m r o2 (ks++[key]) (acc++[x]):=by
 cases hn:nameB (wordT l2) [] with
 | none=>rw[hn]at hb;rw[hb]at h4;exact absurd h4.1 (failB_ne _ _ (by decide))
 | some k =>
  rw[hn]at hk;simp only[Option.getD_some]at hk;subst hk;exact rdDict_some h1 h2 h3 hn (by simp at h5;rintro (e|e);exact h5 e;exact h4.2 e) h6
theorem dict_bad1 {f:By→Bool→Rd PV}{m:Nat}{l l2 key:By}{c:UInt8}{o oa:Bool}{ks:List By}{acc:List PV}(h1:passM false l o=(c::l2,oa))(h2:is2 (c::l2) 62=false)(hk:key=(nameB (wordT l2) []).getD [])(h5:35∈key):rdDict f m l o ks acc=none:=by
 cases hn:nameB (wordT l2) [] with
 | none=>rw[hn]at hk;simp at hk;subst hk;simp at h5
 | some k =>
  rw[hn]at hk;simp only[Option.getD_some]at hk;subst hk;exact rdDict_badkey h1 h2 hn (.inl h5)
theorem dict_bad2 {f:By→Bool→Rd PV}{m:Nat}{l l2 key:By}{c:UInt8}{o oa:Bool}{ks:List By}{acc:List PV}{bad bad5:Int}(h1:passM false l o=(c::l2,oa))(h2:is2 (c::l2) 62=false)(hk:key=(nameB (wordT l2) []).getD [])(hb:bad=nmBad 0 (nameB (wordT l2) []))(h9:bad5=0↔bad=0∧key∉ks)(hbn:bad5≠0∨bad5=0∧f (wordR l2) (wordO l2 oa)=none):rdDict f m l o ks acc=none:=by
 cases hn:nameB (wordT l2) [] with
 | none=>exact rdDict_noname h1 h2 hn
 | some k =>
  rw[hn]at hk hb;simp only[Option.getD_some]at hk;subst hk;rcases hbn with h|⟨_,h⟩
  ·by_cases hin:key∈ks
   ·exact rdDict_badkey h1 h2 hn (.inr hin)
   ·exact absurd (h9.2 ⟨hb,hin⟩) h
  ·exact rdDict_noval h1 h2 hn h
theorem dict_any (pf:By→Nat)(W0 w:World)(hE:Env W0 w)(b:Nat)(s:ByteArray)(p l:By)(c0' c1':UInt8)(n:Nat)(hn:n≤50)(hV:ValC pf W0 n)(hVB:ValB)(odd ends:Bool)(hR:RdAt w b s p (c0'::c1'::l) 0 (50-n) odd ends)(hs:s.size≤1000000000)
  (hW0:W0.heap.size≤b) :
  Calls Tryz.prog 48 #[.pointer (some ⟨b,0,none⟩)] w fun e w'=>VPost w w' b s (50-n) ends e ((rdDict (rdV pf n) l.length l odd [] []).map fun r=>(.dict r.1.1 r.1.2,r.2)):=by
 have HR:=xhd hR;have hbB:=hR.lt;have hsz:=hR.size;obtain⟨c0,c1,c2,c3,c4,c5,cf⟩:=hR.cells;obtain⟨ti,hti,htz0,htz1,htz2⟩:=info_parts Tryz.info30;obtain⟨HE,HV,HVB⟩:=xh3 hE hV hVB;clear hE hV hVB
 clear hR;obtain⟨deep,hdeep⟩:∃deep:Int,deep=50-n:=⟨_,rfl⟩;rw[←hdeep]at HR c3⊢;have Hdeep:=xhd hdeep;clear hdeep
 generalize hRR:rdDict (rdV pf n) l.length l odd [] []=R;have HRR:=xhd hRR;clear hRR
 have hp1:p.length+2≤s.size:=by simp at hsz;omega
 have Hsz:=xhd hsz;clear hsz;go_enter Tryz.func48,Tryz.ntmps48;go_wp2_with fail
 go_loopg [4,6,65] (l.length+1) (fun g _ _ _ wr=>DictI w wr b s deep ends (rdV pf n) R g)
 case atStart =>
  refine .inl ⟨none,0,0,none,0,0,p++[c0',c1'],l,odd,l.length,[],[],fun _=>False,[],⟨⟨(by repeat (first|with_reducible exact xgr w (some b)|with_reducible apply gr_alloc|with_reducible apply gr_drewN|with_reducible apply gr_drew|with_reducible apply gr_set|((with_reducible refine gr_setM ?_ ?_ _ _);rotate_left;(first|omega|(simp;omega))))),?_,World.ownsRow_nil _ _ _ _,World.ownsRow_nil _ _ _ _,by simp only[IsVs],fun k hk=>hk.elim,(fun k hk=>by cases hk),hbB⟩,?_⟩,rfl,Nat.le_refl _,?_,rfl,HRR.out,?_⟩
  ·exact(alloc2 (w.setCell ⟨b,1,none⟩ (.int .i64 (p.length+2))) w.heap.size (by simp) _ _).1
  ·exact(alloc2 (w.setCell ⟨b,1,none⟩ (.int .i64 (p.length+2))) w.heap.size (by simp) _ _).2
  ·have:=Hsz.out;simp at this⊢;omega
  ·exact(HR.out.skip2.alloc _).alloc _
 case round =>
  clear HR c0 c1 c2 c3 c4 c5 cf;rcases hrel with⟨ko,kn,kc,so,sn,sc,p',l',o',m,keys,acc,S,cells,hAG,hg,hm,hacc,hka,hF,hR⟩|⟨hRn,hg,hG,hZ,⟨ko,kn,kc,so,sn,sc,hA⟩,p',l',o',bad,en',hbad,hR⟩
  ·obtain⟨c0, c1, c2, c3, c4, c5, cf⟩ := hR.cells
   obtain⟨HR,HAG,Hg,Hm,Hacc,Hka,HF⟩:=xh7 hR hAG hg hm hacc hka hF;clear hR hAG hg hm hacc hka hF
   go_wp2_with fail
   refine(pass_any _ b s p' l' 0 deep o' ends (by exact HR.out) (by omega)).mono ?_;rintro e w1⟨rfl,⟨p1,hR1⟩,hg1⟩;have HAG1:=xhd (HAG.out.step hg1);have hlp:=passM_len false l' o';clear hg1 c0 c1 c2 c3 c4 c5 cf HR HAG;generalize hPM:passM false l' o'=a at hR1 hlp;obtain⟨la,oa⟩:=a;simp only at hR1 hlp;obtain⟨HR1,Hlp,HPM⟩:=xh3 hR1 hlp hPM;clear hlp hPM
   go_wp2_with fail
   refine(is_any _ b s p1 la 0 deep oa ends (by exact HR1.out) (by omega) ⟨#[62,62]⟩ (by decide)).mono ?_;rintro e w2⟨rfl,n2,hw2⟩;have HAG2:=xhd (HAG1.out.step (w':=w2) (by rw[hw2];exact gr_drewN (xgr _ _) _));have HR2:=xhd (show RdAt w2 b s p1 la 0 deep oa ends by rw[hw2];exact HR1.out);clear HAG1 HR1 hw2 hR1;have hpre:(⟨#[62,62]⟩:ByteArray).data.toList.isPrefixOf la=is2 la 62:=pre2 62 la;rw[hpre];have hn1:¬w.heap.size=b:=by omega
   have hn2:¬w.heap.size+1=b:=by omega
   have hk1:p1.length+la.length=s.size:=by have:=HR2.out.size;omega
   rcases xbt (is2 la 62) with hh|hh
   ·rw[hh]
    obtain⟨c0,c1,c2,c3,c4,c5,cf⟩:=HR2.out.cells;obtain⟨z0,z1,z2,z3,z4,z5,z6,zf⟩:=zb_cells HAG2.out.hZ;obtain⟨v0,v1,v2,v3,v4,v5,v6,vf⟩:=cells7 HAG2.out.hA;have hb2:w.heap.size+1<w2.heap.size:=(Array.getElem?_eq_some_iff.1 HAG2.out.hA).1;have hb1:w.heap.size<w2.heap.size:=by omega
    obtain⟨c,d,l2,hla⟩:∃c d l2,la=c::d::l2:=by
     match la,hh with
     | [],hh=>simp[is2]at hh
     | [c],hh=>simp[is2]at hh
     | c::d::l2,_=>exact⟨c,d,l2,rfl⟩
    subst hla
    have hres:R=some ((keys,acc),l2,oa):=by
     rw[←HF.out];have hm1:=Hm.out;have:=Hlp.out;simp only[List.length_cons]at this;obtain⟨m',rfl⟩:∃m',m=m'+1:=⟨m-1,by omega⟩;exact rdDict_end HPM.out hh
    obtain⟨Hres,Hh⟩:=xh2 hres hh;clear hres hh
    have hk2:p1.length+2≤s.size:=by simp at hk1;omega
    clear hk1;go_wp2_with fail
    refine bodyPost_ret (v:=valOf (.dict keys acc) (.slice ko kn kc) (.slice so sn sc)) (by simp[results,Tryz.results48,go_sem,valOf,nilS,pvKind,pvInt,pvGen,pvReal,pvText,z0,z1,z2,z3,z4,z5,z6,hn1,hn2]) rfl ?_;rw[Hres.out];refine⟨.slice ko kn kc,.slice so sn sc,fun k=>S k∨(Value.slice so sn sc).ownBlock=some k∨(Value.slice ko kn kc).ownBlock=some k,rfl,?_,?_,⟨p1++[c,d],(by repeat (first|with_reducible exact HR2.out.skip2|with_reducible apply RdAt.alloc|with_reducible apply RdAt.set4|((with_reducible refine RdAt.setO ?_ ?_ _ _);rotate_left;(first|omega|(simp;omega)))))⟩,(by repeat (first|with_reducible exact HAG2.out.hG|with_reducible apply gr_alloc|with_reducible apply gr_drewN|with_reducible apply gr_drew|with_reducible apply gr_set|((with_reducible refine gr_setM ?_ ?_ _ _);rotate_left;(first|omega|(simp;omega)))))⟩
    ·refine IsV.keep (fun k hk=>⟨hk,?_⟩) _ _ _ HAG2.out.isD
     have hk2:=HAG2.out.boundD k hk;have:=HAG2.out.hb
     repeat rw[Below.heap_setCell _ _ _ _ (by first|omega|(simp;omega))]
    ·intro k hk
     have hk2:=HAG2.out.boundD k hk;simp;omega
   ·rw[hh]
    have Hh:=xhd hh;clear hh
    go_wp2_with fail
    refine(is_any _ b s p1 la 0 deep oa ends (by exact HR2.out) (by omega) ⟨#[47]⟩ (by decide)).mono ?_;rintro e w3⟨rfl,n3,hw3⟩;have HAG3:=xhd (HAG2.out.step (w':=w3) (by rw[hw3];exact gr_drewN (xgr _ _) _));have HR3:=xhd (show RdAt w3 b s p1 la 0 deep oa ends by rw[hw3];exact HR2.out);clear HAG2 HR2 hw3;have hpre2:(⟨#[47]⟩:ByteArray).data.toList.isPrefixOf la=headIs la (· == 47):=pre1 47 la;rw[hpre2];rcases xbt (headIs la (· == 47)) with h47|h47
    ·rw[h47]
     obtain⟨c,l2,hla⟩:∃c l2,la=c::l2:=by cases la with|nil=>simp[headIs]at h47|cons c l2=>exact⟨c,l2,rfl⟩
     subst hla;have H47:=xhd h47;clear h47
     go_wp2_with fail
     refine(name_any _ b s p1 l2 c 0 deep oa ends (by exact HR3.out) (by omega)).mono ?_;rintro e w4⟨rfl,⟨p4,hR4⟩,hg4⟩;have HAG4:=xhd (HAG3.out.step hg4);clear hg4 HAG3 HR3;obtain⟨bad4,hbad4⟩:∃bad4,bad4=nmBad 0 (nameB (wordT l2) []):=⟨_,rfl⟩;rw[←hbad4]at hR4;obtain⟨key,hkey⟩:∃key,key=(nameB (wordT l2) []).getD []:=⟨_,rfl⟩;rw[←hkey];obtain⟨Hbad4,Hkey⟩:=xh2 hbad4 hkey;clear hbad4 hkey;have HR4:=xhd hR4;clear hR4
     generalize hkx:(⟨key.toArray⟩:ByteArray)=kx;have hkl:kx.data.toList=key:=by rw[←hkx]
     have hks:kx.size≤1000000000:=by
      have h1:kx.size=key.length:=by have:=congrArg List.length hkl;simpa using this
      have h2:(wordT l2).length≤l2.length:=(List.takeWhile_sublist _).length_le;have h3:l2.length+1≤s.size:=by simp at hk1;omega
      have h4:key.length≤(wordT l2).length:=by
       rw[Hkey.out]
       cases hnb:nameB (wordT l2) [] with
       | none=>simp
       | some r=>have:=nameB_len _ _ _ _ (Nat.le_refl _) hnb;simpa using this
      omega
     obtain⟨Hkx,Hkl⟩:=xh2 hkx hkl;clear hkx hkl
     go_wp2_with fail
     refine(signed_any _ kx key Hkl.out (by omega)).mono ?_;rintro e w4'⟨rfl,hw4⟩;subst w4';obtain rfl:kn=keys.length:=row_len HAG4.out.hK;have hkeys:keys.length≤1000000000:=by have:=Hka.out;have:=Hacc.out;omega
     rcases xbt (decide ((35:UInt8)∈key)) with h35|h35
     ·rw[h35]
      go_wp2_with fail
      refine(fail_any _ b s _ _ bad4 deep _ ends (by exact HR4.out) 2).mono ?_;rintro e w5⟨rfl,hR5,hg5⟩;have HAG5:=xhd (HAG4.out.step hg5);clear hg5 HAG4 HR4;have HR5:=xhd hR5;clear hR5
      obtain⟨v0,v1,v2,v3,v4,v5,v6,vf⟩:=cells7 HAG5.out.hA;go_wp2_with fail
      go_loopg [6,65] (keys.length+1) (fun g _ t65 wi=>∃i bad5,g+i=keys.length+1∧t65=.int .i64 (i:Nat)∧i≤keys.length∧(bad5=0↔(failB bad4 2)=0∧key∉keys.take i)∧ColG w wi b 7 (.slice ko keys.length kc) (.slice so sn sc) keys acc S cells∧RdAt wi b s p4 (wordR l2) bad5 deep (wordO l2 oa) ends)
      case atStart=>exact⟨0,(failB bad4 2),rfl,rfl,by omega,by simp,HAG5.out,HR5.out⟩
      case round =>
       obtain⟨i,bad5,hgi,rfl,hik,hb5,hAG,hR⟩:=hrel;clear HR5 HAG5 v0 v1 v2 v3 v4 v5 v6 vf;obtain⟨HR,HAG,Hb5⟩:=xh3 hR hAG hb5;clear hR hAG hb5
       by_cases hlt:i<keys.length
       ·obtain⟨gk,hgk,hcell⟩:=row_cell (i:=i) (u:=.string ⟨(keys[i]).toArray⟩) HAG.out.hK (by simp[kvals,hlt])
        subst hgk;obtain⟨kt,hkt⟩:∃kt:ByteArray,kt=⟨(keys[i]).toArray⟩:=⟨_,rfl⟩;rw[←hkt]at hcell;have hktl:kt.data.toList=keys[i]:=by rw[hkt]
        have Hkt:=xhd hkt;clear hkt
        by_cases hke:keys[i]=key
        ·have he:kt=kx:=by
          exact bytes_eq (hktl.trans (hke.trans Hkl.out.symm))
         have Hktl:=xhd hktl;clear hktl
         subst he;go_wp2_with fail
         refine(fail_any _ b s _ _ bad5 deep _ ends (by exact HR.out) 2).mono ?_;rintro e w6⟨rfl,hR6,hg6⟩;have HAG6:=xhd (HAG.out.step hg6);clear hg6 HAG HR;have HR6:=xhd hR6;clear hR6
         go_wp2_with fail
         go_roundg (keys.length-i)
         case measure=>omega
         case rel=>exact⟨i+1,failB bad5 2,by omega,by simp,by omega,⟨fun e=>absurd e (failB_ne _ _ (by decide)),fun e=>absurd hke ((notin_take hlt).1 e.2).2⟩,HAG6.out,HR6.out⟩
        ·have he:(kt.toList==kx.toList)=false:=by rw[ByteArray.toList_eq,ByteArray.toList_eq,hktl,Hkl.out];exact beq_eq_false_iff_ne.2 hke
         have Hktl:=xhd hktl;clear hktl
         go_wp2_with fail
         go_roundg (keys.length-i)
         case measure=>omega
         case rel=>exact⟨i+1,bad5,by omega,by simp,by omega,by rw[notin_take hlt];exact⟨fun e=>⟨(Hb5.out.1 e).1,(Hb5.out.1 e).2,hke⟩,fun e=>Hb5.out.2 ⟨e.1,e.2.1⟩⟩,HAG.out,HR.out⟩
       ·obtain rfl:i=keys.length:=by omega
        have hb9:bad5=0↔(failB bad4 2)=0∧key∉keys:=by have:=Hb5.out;rwa [List.take_length]at this
        have Hb9:=xhd hb9;clear hb9
        obtain⟨t9,ht9,ht9z0,ht9z1,ht9z2⟩:=info_parts Tryz.info9;obtain⟨v0,v1,v2,v3,v4,v5,v6,vf⟩:=cells7 HAG.out.hA;have hbA:w.heap.size+1<wr.heap.size:=(Array.getElem?_eq_some_iff.1 HAG.out.hA).1;have hkrow:∀k,(Value.slice ko keys.length kc).ownBlock=some k→w.heap.size+2≤k∧k<wr.heap.size:=World.ownsRow.lt HAG.out.hK;have hvrow:∀k,(Value.slice so sn sc).ownBlock=some k→w.heap.size+2≤k∧k<wr.heap.size:=World.ownsRow.lt HAG.out.hO;obtain⟨Hkrow,Hvrow⟩:=xh2 hkrow hvrow;have hbw:=HAG.out.hb;clear hkrow hvrow hlt hik Hb5
        by_cases hgood:bad5=0∧∃q,rdV pf n (wordR l2) (wordO l2 oa)=some q
        ·exact absurd (Hb9.out.1 hgood.1).1 (failB_ne _ _ (by decide))
        ·have hbadn:bad5≠0∨bad5=0∧rdV pf n (wordR l2) (wordO l2 oa)=none:=by
          by_cases e0:bad5=0
          ·right
           refine⟨e0,?_⟩
           cases hq:rdV pf n (wordR l2) (wordO l2 oa) with
           | none=>rfl
           | some q=>exact absurd ⟨e0,q,hq⟩ hgood
          ·exact .inl e0
         clear hgood;have Hbadn:=xhd hbadn;clear hbadn;have hacc2:acc.length+1≤1000000001:=by have:=Hacc.out;omega
         go_wp2_with fail
         go_region_law
          (first
           | (refine step_append_lies _ (by rfl) _ _ _ (by rfl) (w.heap.size+2) 9 t9 _ 1 16 Tryz.underlying23 ht9 ht9z0 ht9z1 ht9z2 rfl (by omega) (.slice ko keys.length kc) keys.length (kvals keys) (by rfl) (World.ownsRow.alloc HAG.out.hK _) ⟨wr.heap.size,0,none⟩ 1 1 [.string kx] (by rfl) (by rfl) (World.news_of_block (heap_alloc_new wr _)) (by simp[Value.oneCell']) (by omega) (by unfold maxLen;omega) (by omega) (by simp;omega) (wr.heap.size+1) (by simp) ?_;intro gk capk w5 hownk hgrowk hatk hltk;have hA5:=keep hgrowk ((Below.heap_alloc _ _ _ hbA).trans HAG.out.hA) (fun e=>by have:=(Hkrow.out _ e.symm).1;omega);have HA5:=xhd hA5;obtain⟨y0,y1,y2,y3,y4,y5,y6,yf⟩:=cells7 hA5;clear hA5;have hbA5:w.heap.size+1<w5.heap.size:=(xgl HA5.out);have HX5:=xhd ((HAG.out.step (gr_drew (xgr wr (some b)))).toColX.pushKey (key:=key) (by rw[Hkx.out];exact hownk) hgrowk (by rcases hatk with h|h;exact .inl h;exact .inr (by show wr.heap.size≤gk;omega)));have HR5:=xhd (((show RdAt wr.drew b s p4 (wordR l2) bad5 deep (wordO l2 oa) ends from HR.out).alloc _).grown hgrowk (fun e=>by have:=(Hkrow.out _ e.symm).1;omega));have Hgk:=xhd (show wr.heap.size≤w5.heap.size by have:=hgrowk.size;simp at this;omega);clear hownk hgrowk hatk)
           | (go_simp;go_at_call 28;refine(value_bad HV.out HVB.out (by exact HE.out.grown HX5.out.hG (fun k hk=>by injection hk with hk;omega)) hW0 hs (by rw[←Hdeep.out];exact HR5.out) hn Hbadn.out).mono ?_;intro e w6 hP;obtain⟨vv,rfl,⟨xk,xn,xg,xx,xt,ko2,kn2,kc2,vo2,vn2,vc2,rfl⟩,⟨p6,l6,o6,bad6,en6,hbad6,hR6⟩,hg6⟩:=hP;have HX6:=xhd (HX5.out.step hg6);have hA6:=keep hg6 HA5.out (by simp;omega);have HA6:=xhd hA6;obtain⟨x0,x1,x2,x3,x4,x5,x6,xf⟩:=cells7 hA6;clear hA6;have hbA6:w.heap.size+1<w6.heap.size:=(xgl HA6.out);have HR6:=xhd hR6;have Hbad6:=xhd hbad6;have Hg6:=xhd hg6;clear hR6 hg6 hbad6)
           | (refine step_append_lies _ (by rfl) _ _ _ (by rfl) (w.heap.size+2) 30 ti _ 7 96 Tryz.underlying28 hti htz0 htz1 htz2 rfl (by omega) (.slice so sn sc) acc.length cells (by rfl) (World.ownsRow.alloc HX6.out.hO _) ⟨w6.heap.size,0,none⟩ 1 1 [.int .i64 xk,.int .i64 xn,.int .i64 xg,.float .f64 xx,.string xt,.slice ko2 kn2 kc2,.slice vo2 vn2 vc2] (by rfl) (by rfl) (World.news_of_block (heap_alloc_new w6 _)) (by simp[Value.oneCell']) (by omega) (by unfold maxLen;omega) (by omega) (by simp;omega) (w6.heap.size+1) (by simp) ?_;intro gg cap w7 hown7 hgrow7 hat7 hlt7;have hA7:=keep hgrow7 ((Below.heap_alloc _ _ _ hbA6).trans HA6.out) (fun e=>by have:=(Hvrow.out _ e.symm).1;omega);obtain⟨r0,r1,r2,r3,r4,r5,r6,rf⟩:=cells7 hA7;have HA7:=xhd hA7;have Hgrow7:=xhd hgrow7;have hbA7:w.heap.size+1<w7.heap.size:=(xgl hA7);clear hown7 hgrow7 hat7 hA7))
         all_goals
          go_wp2_with fail
          go_roundg 0
          case measure=>rw[Hg.out];omega
          case rel =>
           have hR7:RdAt w7 b s p6 l6 bad6 deep o6 en6:=(((show RdAt w6 b s p6 l6 bad6 deep o6 en6 by rw[Hdeep.out];exact HR6.out).alloc _).grown Hgrow7.out (fun e=>by have:=(Hvrow.out _ e.symm).1;omega));obtain⟨q1,q2,q3⟩:=HX6.out.bad2 HA6.out Hgrow7.out (.slice (some ⟨gk,0,none⟩) (keys.length+1) capk) (.slice (some ⟨gg,0,none⟩) (acc.length+1) cap);exact .inr ⟨by rw[←HF.out];exact dict_bad1 HPM.out Hh.out Hkey.out (by simpa using h35),rfl,q1,q2,⟨_,_,_,_,_,_,q3⟩,p6,l6,o6,bad6,en6,Hbad6.out,(hR7.setO (by omega) _ _).setO (by omega) _ _⟩
     ·rw[h35]
      obtain⟨v0,v1,v2,v3,v4,v5,v6,vf⟩:=cells7 HAG4.out.hA;go_wp2_with fail
      go_loopg [6,65] (keys.length+1) (fun g _ t65 wi=>∃i bad5,g+i=keys.length+1∧t65=.int .i64 (i:Nat)∧i≤keys.length∧(bad5=0↔(bad4)=0∧key∉keys.take i)∧ColG w wi b 7 (.slice ko keys.length kc) (.slice so sn sc) keys acc S cells∧RdAt wi b s p4 (wordR l2) bad5 deep (wordO l2 oa) ends)
      case atStart=>exact⟨0,(bad4),rfl,rfl,by omega,by simp,HAG4.out,HR4.out⟩
      case round =>
       obtain⟨i,bad5,hgi,rfl,hik,hb5,hAG,hR⟩:=hrel;clear HR4 HAG4 v0 v1 v2 v3 v4 v5 v6 vf;obtain⟨HR,HAG,Hb5⟩:=xh3 hR hAG hb5;clear hR hAG hb5
       by_cases hlt:i<keys.length
       ·obtain⟨gk,hgk,hcell⟩:=row_cell (i:=i) (u:=.string ⟨(keys[i]).toArray⟩) HAG.out.hK (by simp[kvals,hlt])
        subst hgk;obtain⟨kt,hkt⟩:∃kt:ByteArray,kt=⟨(keys[i]).toArray⟩:=⟨_,rfl⟩;rw[←hkt]at hcell;have hktl:kt.data.toList=keys[i]:=by rw[hkt]
        have Hkt:=xhd hkt;clear hkt
        by_cases hke:keys[i]=key
        ·have he:kt=kx:=by
          exact bytes_eq (hktl.trans (hke.trans Hkl.out.symm))
         have Hktl:=xhd hktl;clear hktl
         subst he;go_wp2_with fail
         refine(fail_any _ b s _ _ bad5 deep _ ends (by exact HR.out) 2).mono ?_;rintro e w6⟨rfl,hR6,hg6⟩;have HAG6:=xhd (HAG.out.step hg6);clear hg6 HAG HR;have HR6:=xhd hR6;clear hR6
         go_wp2_with fail
         go_roundg (keys.length-i)
         case measure=>omega
         case rel=>exact⟨i+1,failB bad5 2,by omega,by simp,by omega,⟨fun e=>absurd e (failB_ne _ _ (by decide)),fun e=>absurd hke ((notin_take hlt).1 e.2).2⟩,HAG6.out,HR6.out⟩
        ·have he:(kt.toList==kx.toList)=false:=by rw[ByteArray.toList_eq,ByteArray.toList_eq,hktl,Hkl.out];exact beq_eq_false_iff_ne.2 hke
         have Hktl:=xhd hktl;clear hktl
         go_wp2_with fail
         go_roundg (keys.length-i)
         case measure=>omega
         case rel=>exact⟨i+1,bad5,by omega,by simp,by omega,by rw[notin_take hlt];exact⟨fun e=>⟨(Hb5.out.1 e).1,(Hb5.out.1 e).2,hke⟩,fun e=>Hb5.out.2 ⟨e.1,e.2.1⟩⟩,HAG.out,HR.out⟩
       ·obtain rfl:i=keys.length:=by omega
        have hb9:bad5=0↔(bad4)=0∧key∉keys:=by have:=Hb5.out;rwa [List.take_length]at this
        have Hb9:=xhd hb9;clear hb9
        obtain⟨t9,ht9,ht9z0,ht9z1,ht9z2⟩:=info_parts Tryz.info9;obtain⟨v0,v1,v2,v3,v4,v5,v6,vf⟩:=cells7 HAG.out.hA;have hbA:w.heap.size+1<wr.heap.size:=(Array.getElem?_eq_some_iff.1 HAG.out.hA).1;have hkrow:∀k,(Value.slice ko keys.length kc).ownBlock=some k→w.heap.size+2≤k∧k<wr.heap.size:=World.ownsRow.lt HAG.out.hK;have hvrow:∀k,(Value.slice so sn sc).ownBlock=some k→w.heap.size+2≤k∧k<wr.heap.size:=World.ownsRow.lt HAG.out.hO;obtain⟨Hkrow,Hvrow⟩:=xh2 hkrow hvrow;have hbw:=HAG.out.hb;clear hkrow hvrow hlt hik Hb5
        by_cases hgood:bad5=0∧∃q,rdV pf n (wordR l2) (wordO l2 oa)=some q
        ·obtain⟨hb0,⟨x,r,o2⟩,hrv⟩:=hgood
         subst hb0;have Hrv:=xhd hrv;clear hrv
         have hacc2:acc.length+1≤1000000001:=by have:=Hacc.out;omega
         go_wp2_with fail
         go_region_law
          (first
           | (refine step_append_lies _ (by rfl) _ _ _ (by rfl) (w.heap.size+2) 9 t9 _ 1 16 Tryz.underlying23 ht9 ht9z0 ht9z1 ht9z2 rfl (by omega) (.slice ko keys.length kc) keys.length (kvals keys) (by rfl) (World.ownsRow.alloc HAG.out.hK _) ⟨wr.heap.size,0,none⟩ 1 1 [.string kx] (by rfl) (by rfl) (World.news_of_block (heap_alloc_new wr _)) (by simp[Value.oneCell']) (by omega) (by unfold maxLen;omega) (by omega) (by simp;omega) (wr.heap.size+1) (by simp) ?_;intro gk capk w5 hownk hgrowk hatk hltk;have hA5:=keep hgrowk ((Below.heap_alloc _ _ _ hbA).trans HAG.out.hA) (fun e=>by have:=(Hkrow.out _ e.symm).1;omega);have HA5:=xhd hA5;obtain⟨y0,y1,y2,y3,y4,y5,y6,yf⟩:=cells7 hA5;clear hA5;have hbA5:w.heap.size+1<w5.heap.size:=(xgl HA5.out);have HX5:=xhd ((HAG.out.step (gr_drew (xgr wr (some b)))).toColX.pushKey (key:=key) (by rw[Hkx.out];exact hownk) hgrowk (by rcases hatk with h|h;exact .inl h;exact .inr (by show wr.heap.size≤gk;omega)));have HR5:=xhd (((show RdAt wr.drew b s p4 (wordR l2) 0 deep (wordO l2 oa) ends from HR.out).alloc _).grown hgrowk (fun e=>by have:=(Hkrow.out _ e.symm).1;omega));have Hgk:=xhd (show wr.heap.size≤w5.heap.size by have:=hgrowk.size;simp at this;omega);clear hownk hgrowk hatk)
           | (go_simp;go_at_call 28;refine(HV.out _ b s p4 (wordR l2) (wordO l2 oa) ends (by exact HE.out.grown HX5.out.hG (fun k hk=>by injection hk with hk;omega)) hW0 hs (by rw[←Hdeep.out];exact HR5.out) hn).mono ?_;intro e w6 hP;rw[Hrv.out]at hP;obtain⟨ks2,vs2,S2,rfl,hV6,hS6,⟨p6,hR6⟩,hg6⟩:=hP;obtain⟨⟨ko2,kn2,kc2,hks⟩,⟨vo2,vn2,vc2,hvs⟩⟩:=IsV.slices hV6;subst hks;subst hvs;have HX6:=xhd (HX5.out.step hg6);have hA6:=keep hg6 HA5.out (by simp;omega);have HA6:=xhd hA6;obtain⟨x0,x1,x2,x3,x4,x5,x6,xf⟩:=cells7 hA6;clear hA6;have hbA6:w.heap.size+1<w6.heap.size:=(xgl HA6.out);have HV6:=xhd hV6;have HS6:=xhd hS6;have HR6:=xhd hR6;have Hg6:=xhd hg6;clear hV6 hS6 hR6 hg6;unfold valOf)
           | (refine step_append_lies _ (by rfl) _ _ _ (by rfl) (w.heap.size+2) 30 ti _ 7 96 Tryz.underlying28 hti htz0 htz1 htz2 rfl (by omega) (.slice so sn sc) acc.length cells (by rfl) (World.ownsRow.alloc HX6.out.hO _) ⟨w6.heap.size,0,none⟩ 1 1 (c7 x (.slice ko2 kn2 kc2) (.slice vo2 vn2 vc2)) (by rfl) (by rfl) (World.news_of_block (heap_alloc_new w6 _)) (by simp[Value.oneCell',c7]) (by omega) (by unfold maxLen;omega) (by omega) (by simp;omega) (w6.heap.size+1) (by simp) ?_;intro gg cap w7 hown7 hgrow7 hat7 hlt7;have hA7:=keep hgrow7 ((Below.heap_alloc _ _ _ hbA6).trans HA6.out) (fun e=>by have:=(Hvrow.out _ e.symm).1;omega);obtain⟨r0,r1,r2,r3,r4,r5,r6,rf⟩:=cells7 hA7;have HA7:=xhd hA7;have Hown7:=xhd hown7;have Hgrow7:=xhd hgrow7;have Hat7:=xhd hat7;have hbA7:w.heap.size+1<w7.heap.size:=(xgl hA7);clear hown7 hgrow7 hat7 hA7))
         all_goals
          go_wp2_with fail
          go_roundg (r.length+1)
          case measure=>rw[Hg.out];have:=rdV_len _ _ _ _ _ _ _ Hrv.out;have:=wordR_len l2;have:=Hlp.out;simp at this;omega
          case rel =>
           have hR7:RdAt w7 b s p6 r 0 deep o2 ends:=(((show RdAt w6 b s p6 r 0 deep o2 ends by rw[Hdeep.out];exact HR6.out).alloc _).grown Hgrow7.out (fun e=>by have:=(Hvrow.out _ e.symm).1;omega));have hrl:=rdV_len _ _ _ _ _ _ _ Hrv.out;have hwl:=wordR_len l2;have hll:=Hlp.out;simp only[List.length_cons]at hll;have hX7:=HX6.out.push (w3:=w5) (fun k hk=>by have:=(Hvrow.out k hk).2;have:=Hgk.out;omega) (fun k hk=>(World.ownsRow.lt HX5.out.hK k hk).2) Hg6.out.size HV6.out HS6.out (by omega) Hown7.out Hgrow7.out (by rcases Hat7.out with h|h;exact .inl h;exact .inr (by omega));have hm1:=Hm.out;have hac:=Hacc.out;obtain⟨m',rfl⟩:∃m',m=m'+1:=⟨m-1,by omega⟩;exact .inl ⟨_,_,_,_,_,_,p6,r,o2,m',keys++[key],acc++[x],_,_,hX7.close2 HA7.out,rfl,by omega,by simp;omega,by simp[Hka.out],by rw[←HF.out];exact(dict_good HPM.out Hh.out H47.out Hkey.out Hbad4.out (Hb9.out.1 (by first|trivial|rfl)) h35 Hrv.out).symm,(hR7.setO (by omega) _ _).setO (by omega) _ _⟩
        ·have hbadn:bad5≠0∨bad5=0∧rdV pf n (wordR l2) (wordO l2 oa)=none:=by
          by_cases e0:bad5=0
          ·right
           refine⟨e0,?_⟩
           cases hq:rdV pf n (wordR l2) (wordO l2 oa) with
           | none=>rfl
           | some q=>exact absurd ⟨e0,q,hq⟩ hgood
          ·exact .inl e0
         clear hgood;have Hbadn:=xhd hbadn;clear hbadn;have hacc2:acc.length+1≤1000000001:=by have:=Hacc.out;omega
         go_wp2_with fail
         go_region_law
          (first
           | (refine step_append_lies _ (by rfl) _ _ _ (by rfl) (w.heap.size+2) 9 t9 _ 1 16 Tryz.underlying23 ht9 ht9z0 ht9z1 ht9z2 rfl (by omega) (.slice ko keys.length kc) keys.length (kvals keys) (by rfl) (World.ownsRow.alloc HAG.out.hK _) ⟨wr.heap.size,0,none⟩ 1 1 [.string kx] (by rfl) (by rfl) (World.news_of_block (heap_alloc_new wr _)) (by simp[Value.oneCell']) (by omega) (by unfold maxLen;omega) (by omega) (by simp;omega) (wr.heap.size+1) (by simp) ?_;intro gk capk w5 hownk hgrowk hatk hltk;have hA5:=keep hgrowk ((Below.heap_alloc _ _ _ hbA).trans HAG.out.hA) (fun e=>by have:=(Hkrow.out _ e.symm).1;omega);have HA5:=xhd hA5;obtain⟨y0,y1,y2,y3,y4,y5,y6,yf⟩:=cells7 hA5;clear hA5;have hbA5:w.heap.size+1<w5.heap.size:=(xgl HA5.out);have HX5:=xhd ((HAG.out.step (gr_drew (xgr wr (some b)))).toColX.pushKey (key:=key) (by rw[Hkx.out];exact hownk) hgrowk (by rcases hatk with h|h;exact .inl h;exact .inr (by show wr.heap.size≤gk;omega)));have HR5:=xhd (((show RdAt wr.drew b s p4 (wordR l2) bad5 deep (wordO l2 oa) ends from HR.out).alloc _).grown hgrowk (fun e=>by have:=(Hkrow.out _ e.symm).1;omega));have Hgk:=xhd (show wr.heap.size≤w5.heap.size by have:=hgrowk.size;simp at this;omega);clear hownk hgrowk hatk)
           | (go_simp;go_at_call 28;refine(value_bad HV.out HVB.out (by exact HE.out.grown HX5.out.hG (fun k hk=>by injection hk with hk;omega)) hW0 hs (by rw[←Hdeep.out];exact HR5.out) hn Hbadn.out).mono ?_;intro e w6 hP;obtain⟨vv,rfl,⟨xk,xn,xg,xx,xt,ko2,kn2,kc2,vo2,vn2,vc2,rfl⟩,⟨p6,l6,o6,bad6,en6,hbad6,hR6⟩,hg6⟩:=hP;have HX6:=xhd (HX5.out.step hg6);have hA6:=keep hg6 HA5.out (by simp;omega);have HA6:=xhd hA6;obtain⟨x0,x1,x2,x3,x4,x5,x6,xf⟩:=cells7 hA6;clear hA6;have hbA6:w.heap.size+1<w6.heap.size:=(xgl HA6.out);have HR6:=xhd hR6;have Hbad6:=xhd hbad6;have Hg6:=xhd hg6;clear hR6 hg6 hbad6)
           | (refine step_append_lies _ (by rfl) _ _ _ (by rfl) (w.heap.size+2) 30 ti _ 7 96 Tryz.underlying28 hti htz0 htz1 htz2 rfl (by omega) (.slice so sn sc) acc.length cells (by rfl) (World.ownsRow.alloc HX6.out.hO _) ⟨w6.heap.size,0,none⟩ 1 1 [.int .i64 xk,.int .i64 xn,.int .i64 xg,.float .f64 xx,.string xt,.slice ko2 kn2 kc2,.slice vo2 vn2 vc2] (by rfl) (by rfl) (World.news_of_block (heap_alloc_new w6 _)) (by simp[Value.oneCell']) (by omega) (by unfold maxLen;omega) (by omega) (by simp;omega) (w6.heap.size+1) (by simp) ?_;intro gg cap w7 hown7 hgrow7 hat7 hlt7;have hA7:=keep hgrow7 ((Below.heap_alloc _ _ _ hbA6).trans HA6.out) (fun e=>by have:=(Hvrow.out _ e.symm).1;omega);obtain⟨r0,r1,r2,r3,r4,r5,r6,rf⟩:=cells7 hA7;have HA7:=xhd hA7;have Hgrow7:=xhd hgrow7;have hbA7:w.heap.size+1<w7.heap.size:=(xgl hA7);clear hown7 hgrow7 hat7 hA7))
         all_goals
          go_wp2_with fail
          go_roundg 0
          case measure=>rw[Hg.out];omega
          case rel =>
           have hR7:RdAt w7 b s p6 l6 bad6 deep o6 en6:=(((show RdAt w6 b s p6 l6 bad6 deep o6 en6 by rw[Hdeep.out];exact HR6.out).alloc _).grown Hgrow7.out (fun e=>by have:=(Hvrow.out _ e.symm).1;omega));obtain⟨q1,q2,q3⟩:=HX6.out.bad2 HA6.out Hgrow7.out (.slice (some ⟨gk,0,none⟩) (keys.length+1) capk) (.slice (some ⟨gg,0,none⟩) (acc.length+1) cap);exact .inr ⟨by rw[←HF.out];exact dict_bad2 HPM.out Hh.out Hkey.out Hbad4.out Hb9.out Hbadn.out,rfl,q1,q2,⟨_,_,_,_,_,_,q3⟩,p6,l6,o6,bad6,en6,Hbad6.out,(hR7.setO (by omega) _ _).setO (by omega) _ _⟩
    ·rw[h47]
     obtain⟨c0,c1,c2,c3,c4,c5,cf⟩:=HR3.out.cells;obtain⟨z0,z1,z2,z3,z4,z5,z6,zf⟩:=zb_cells HAG3.out.hZ;have hb1:w.heap.size<w3.heap.size:=(Array.getElem?_eq_some_iff.1 HAG3.out.hZ).1;have Hk1:=xhd hk1;have hk2:p1.length≤s.size:=by omega
     clear hk1;have hres:R=none:=by rw[←HF.out];exact rdDict_else HPM.out Hh.out h47
     have H47:=xhd h47;clear h47
     cases ends
     ·go_wp2_with fail
      (refine wp_region_quiet_tail 18 (by kernel_rfl) (by kernel_rfl) ?_;simp only[List.take_succ_cons,List.take_zero,List.drop_succ_cons,List.drop_zero];(repeat (go_big_quiet_step (fail)));refine wpQuiet_nil ?_;intro _ hwt;obtain⟨nt,hwt'⟩:=hwt;subst hwt';go_wp2_with fail)
      have HAG4:=xhd (HAG3.out.step (gr_set (gr_drewN (xgr w3 (some b)) nt) 5 (.bool (decide (s.size≤p1.length)))));have HR4:=xhd ((HR3.out.drewN nt).set5 (decide (s.size≤p1.length)));refine(fail_any _ b s p1 la 0 deep oa (decide (s.size≤p1.length)) (by exact HR4.out) 1).mono ?_;rintro e w5⟨rfl,hR5,hg5⟩;replace hR5:RdAt w5 b s p1 la 1 deep oa (decide (s.size≤p1.length)):=hR5;have HAG5:=xhd (HAG4.out.step hg5);clear hg5 c0 c1 c2 c3 c4 c5 cf z0 z1 z2 z3 z4 z5 z6 zf HAG3 HAG4 HR3 HR4;have HR5:=xhd hR5;clear hR5
      obtain⟨z0,z1,z2,z3,z4,z5,z6,zf⟩:=zb_cells HAG5.out.hZ;unfold zeroV;go_wp2_with fail
      refine bodyPost_ret (v:=zeroV) (by simp[results,Tryz.results48,go_sem,zeroV,z0,z1,z2,z3,z4,z5,z6]) rfl ?_;rw[hres];exact⟨_,rfl,⟨_,_,_,_,_,_,_,_,_,_,_,rfl⟩,⟨p1,la,oa,1,(decide (s.size≤p1.length)),by decide,(by repeat (first|with_reducible exact HR5.out|with_reducible apply RdAt.alloc|with_reducible apply RdAt.set4|((with_reducible refine RdAt.setO ?_ ?_ _ _);rotate_left;(first|omega|(simp;omega)))))⟩,(by repeat (first|with_reducible exact HAG5.out.hG|with_reducible apply gr_alloc|with_reducible apply gr_drewN|with_reducible apply gr_drew|with_reducible apply gr_set|((with_reducible refine gr_setM ?_ ?_ _ _);rotate_left;(first|omega|(simp;omega)))))⟩
     ·go_wp2_with fail
      (refine wp_region_quiet_tail 18 (by kernel_rfl) (by kernel_rfl) ?_;simp only[List.take_succ_cons,List.take_zero,List.drop_succ_cons,List.drop_zero];(repeat (go_big_quiet_step (fail)));refine wpQuiet_nil ?_;intro _ hwt;obtain⟨nt,hwt'⟩:=hwt;subst hwt';go_wp2_with fail)
      have HAG4:=xhd (HAG3.out.step (gr_set (gr_drewN (xgr w3 (some b)) nt) 5 (.bool (true))));have HR4:=xhd ((HR3.out.drewN nt).set5 (true));refine(fail_any _ b s p1 la 0 deep oa (true) (by exact HR4.out) 1).mono ?_;rintro e w5⟨rfl,hR5,hg5⟩;replace hR5:RdAt w5 b s p1 la 1 deep oa (true):=hR5;have HAG5:=xhd (HAG4.out.step hg5);clear hg5 c0 c1 c2 c3 c4 c5 cf z0 z1 z2 z3 z4 z5 z6 zf HAG3 HAG4 HR3 HR4;have HR5:=xhd hR5;clear hR5
      obtain⟨z0,z1,z2,z3,z4,z5,z6,zf⟩:=zb_cells HAG5.out.hZ;unfold zeroV;go_wp2_with fail
      refine bodyPost_ret (v:=zeroV) (by simp[results,Tryz.results48,go_sem,zeroV,z0,z1,z2,z3,z4,z5,z6]) rfl ?_;rw[hres];exact⟨_,rfl,⟨_,_,_,_,_,_,_,_,_,_,_,rfl⟩,⟨p1,la,oa,1,(true),by decide,(by repeat (first|with_reducible exact HR5.out|with_reducible apply RdAt.alloc|with_reducible apply RdAt.set4|((with_reducible refine RdAt.setO ?_ ?_ _ _);rotate_left;(first|omega|(simp;omega)))))⟩,(by repeat (first|with_reducible exact HAG5.out.hG|with_reducible apply gr_alloc|with_reducible apply gr_drewN|with_reducible apply gr_drew|with_reducible apply gr_set|((with_reducible refine gr_setM ?_ ?_ _ _);rotate_left;(first|omega|(simp;omega)))))⟩
  ·obtain⟨c0,c1,c2,c3,c4,c5,cf⟩:=hR.cells
   have hb2:w.heap.size+1<wr.heap.size:=(xgl hA);have hb1:w.heap.size<wr.heap.size:=by omega
   obtain⟨HG,HZ,HA⟩:=xh3 hG hZ hA;clear hG hZ hA
   obtain⟨z0,z1,z2,z3,z4,z5,z6,zf⟩:=zb_cells HZ.out;obtain⟨v0,v1,v2,v3,v4,v5,v6,vf⟩:=cells7 HA.out;have hbd:(bad==0)=false:=by simpa using hbad
   obtain⟨HR,HRn⟩:=xh2 hR hRn;clear hR hRn
   go_wp2_with fail
   refine bodyPost_ret (v:=.agg #[.int .i64 7,.int .i64 0,.int .i64 0,.float .f64 0,.string ⟨#[]⟩,.slice ko kn kc,.slice so sn sc]) (by simp[results,Tryz.results48,go_sem,z0,z1,z2,z3,z4,z5,z6]) rfl ?_;rw[HRn.out];exact⟨_,rfl,⟨_,_,_,_,_,_,_,_,_,_,_,rfl⟩,⟨p',l',o',bad,en',hbad,(by repeat (first|with_reducible exact HR.out|with_reducible apply RdAt.alloc|with_reducible apply RdAt.set4|((with_reducible refine RdAt.setO ?_ ?_ _ _);rotate_left;(first|omega|(simp;omega)))))⟩,(by repeat (first|with_reducible exact HG.out|with_reducible apply gr_alloc|with_reducible apply gr_drewN|with_reducible apply gr_drew|with_reducible apply gr_set|((with_reducible refine gr_setM ?_ ?_ _ _);rotate_left;(first|omega|(simp;omega)))))⟩
end Go.Proofs.YtfkecmlmnhbmoaaGreatDoor
