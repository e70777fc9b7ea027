/- FnParse: the texts F17 G19 G20 of the workbench, laid together. -/
import Derived.Test.YtfkecmlmnhbmoaaGreatDoorProg
import Derived.WalkKit
import Derived.WalkLawsBesides
import Derived.WalkSpells
import Derived.BigQuiet
import Derived.BigRegion
import Derived.Deep.QuietTactic
import Derived.Deep.RegionHeld3
import Derived.Deep.LoopGhost
import Derived.StillTailTactics
import Derived.Lib.Hide
import Derived.Laws.EntriesVeiled
import Derived.Test.YtfkecmlmnhbmoaaGreatDoorZ31
import Derived.Test.YtfkecmlmnhbmoaaGreatDoorZ32
set_option linter.unusedVariables false
set_option linter.unusedSimpArgs false
namespace Go.Proofs.YtfkecmlmnhbmoaaGreatDoor
open Go Go.RowKit
set_option maxRecDepth 100000 in
set_option maxHeartbeats 40000000 in
theorem ex_any (W0:World) (hF:FInit2 W0) (hF3:∀ fb fo (i:Nat) x,(∃ fc,W0.cell? ⟨20,0,Option.none⟩=some (.slice (some ⟨fb,fo,Option.none⟩) 23 fc))→i < 23→W0.cell? ⟨fb,fo + i,Option.none⟩=some (.float .f64 x)→∃ s m j,FloatKind.f64.format.read x=.number s m j∧m≠0) (M:Nat) (hM:M < 18446744073709551616) (p:Int) (hp1:-100≤p) (hp2:p≤20) (ng:Bool):∃ (x:Nat) (ok:Bool),(ok=true→nnF x)∧∀ w:World,Env W0 w→Calls Tryz.prog 153 #[.int .u64 M,.int .i64 p,.bool ng] w fun e w'=>e=.returned (.tuple #[.float .f64 x,.bool ok])∧w'=w:=by
  obtain ⟨fb,fo,fc,f0,f1⟩:=hF.p64
  have hf0:=hF.f0
  rcases Bool.eq_false_or_eq_true ((M:Int) / 4503599627370496 != 0) with hm | hm
  · refine ⟨0,false,by simp,fun w hE=>?_⟩
    have e0:=hE.cell hf0
    go_enter Tryz.func153,Tryz.ntmps153
    go_wp2_with fail
    go_ret2
    exact ⟨rfl,rfl⟩
  · have hM53 : M < 9007199254740992 := by have h1 := hm; rw [bne_eq_false_iff_eq] at h1; omega
    have hNF:=isNumF_ofInt hM53
    have hNG:=isNumF_neg (ofInt_lt hM53)
    obtain ⟨F,hFF⟩:∃ F,floatOfInt .f64 (M:Int)=F:=⟨_,rfl⟩
    rw [hFF] at hNF hNG
    obtain ⟨G,hG⟩:∃ G,G=Op.negFloat .f64 F:=⟨_,rfl⟩
    rw [←hG] at hNG
    have hneg:∀ w:World,(Op.unary .neg (.float .f64 F)).run Tryz.prog w=.ok (.float .f64 G) w:=by intro w;rw [hG];rfl
    clear hG
    by_cases hp0:p=0
    · subst hp0
      cases ng
      all_goals
        apply Exists.intro
        refine ⟨true,?_,fun w hE=>?_⟩
        rotate_left
        have e0:=hE.cell hf0
        go_enter Tryz.func153,Tryz.ntmps153
        go_wp2_with fail
        go_ret2
        exact ⟨rfl,rfl⟩
        first | exact nnF_num hNF | exact nnF_num hNG | (intro _;first | exact nnF_num hNF | exact nnF_num hNG)
    · have hpb:(p == 0)=false:=by simpa using hp0
      by_cases hpos:0 < p
      · obtain ⟨i,rfl⟩:∃ i:Nat,p=i:=⟨p.toNat,by omega⟩
        obtain ⟨y,hy⟩:=f1 i (by omega)
        obtain ⟨ys,ym,yj,hy2,hy3⟩:=hF3 fb fo i y ⟨fc,f0⟩ (by omega) hy
        cases ng
        · obtain ⟨r,hr,hrn⟩:=mul_some hNF ⟨_,_,_,hy2⟩
          have hmul:∀ w:World,(binOp .mul 22 (.float .f64 (F)) (.float .f64 y)).run Tryz.prog w=.ok (.float .f64 r) w:=fun w=>run_float_arith w .mul 22 .f64 _ _ r hr
          have hok9:∀ a b:Bool,(((if FloatKind.f64.format.order (F) 4831355200913801216=some Ordering.gt then false else if FloatKind.f64.format.order (F) 14054727237768577024=some Ordering.lt then false else true):Bool)=true)→nnF (if FloatKind.f64.format.order (F) 4831355200913801216=some Ordering.gt then F else if FloatKind.f64.format.order (F) 14054727237768577024=some Ordering.lt then F else r):=fun _ _ h=>by
            split at h
            · exact absurd h (by simp)
            · rename_i g1
              split at h
              · exact absurd h (by simp)
              · rename_i g2
                rw [if_neg g1,if_neg g2];exact hrn
          clear hr hNF hNG hy2
          refine ⟨if FloatKind.f64.format.order (F) 4831355200913801216=some Ordering.gt then F else if FloatKind.f64.format.order (F) 14054727237768577024=some Ordering.lt then F else r,if FloatKind.f64.format.order (F) 4831355200913801216=some Ordering.gt then false else if FloatKind.f64.format.order (F) 14054727237768577024=some Ordering.lt then false else true,hok9 true true,fun w hE=>?_⟩
          clear hok9 hrn
          have e0:=hE.cell hf0
          have e1:=hE.cell f0
          have e2:=hE.cell hy
          generalize hX:(if FloatKind.f64.format.order (F) 4831355200913801216=some Ordering.gt then F else if FloatKind.f64.format.order (F) 14054727237768577024=some Ordering.lt then F else r)=X
          generalize hO:(if FloatKind.f64.format.order (F) 4831355200913801216=some Ordering.gt then false else if FloatKind.f64.format.order (F) 14054727237768577024=some Ordering.lt then false else true)=O
          have HX:=Lib.hid hX;clear hX
          have HO:=Lib.hid hO;clear hO
          go_enter Tryz.func153,Tryz.ntmps153
          go_wp2_with fail
          · go_ret2
            rename_i h9
            rw [←HX.out,←HO.out,if_pos h9,if_pos h9]
            exact ⟨rfl,rfl⟩
          · go_ret2
            rename_i h9 h8
            clear hneg hmul e0 e1 e2
            rw [←HX.out,←HO.out]
            simp [h9] at h8
            simp [h8,h9]
          · go_ret2
            rename_i h9 h8
            clear hneg hmul e0 e1 e2
            rw [←HX.out,←HO.out]
            simp [h9] at h8
            simp [h8,h9]
        · obtain ⟨r,hr,hrn⟩:=mul_some hNG ⟨_,_,_,hy2⟩
          have hmul:∀ w:World,(binOp .mul 22 (.float .f64 (G)) (.float .f64 y)).run Tryz.prog w=.ok (.float .f64 r) w:=fun w=>run_float_arith w .mul 22 .f64 _ _ r hr
          have hok9:∀ a b:Bool,(((if FloatKind.f64.format.order (G) 4831355200913801216=some Ordering.gt then false else if FloatKind.f64.format.order (G) 14054727237768577024=some Ordering.lt then false else true):Bool)=true)→nnF (if FloatKind.f64.format.order (G) 4831355200913801216=some Ordering.gt then G else if FloatKind.f64.format.order (G) 14054727237768577024=some Ordering.lt then G else r):=fun _ _ h=>by
            split at h
            · exact absurd h (by simp)
            · rename_i g1
              split at h
              · exact absurd h (by simp)
              · rename_i g2
                rw [if_neg g1,if_neg g2];exact hrn
          clear hr hNF hNG hy2
          refine ⟨if FloatKind.f64.format.order (G) 4831355200913801216=some Ordering.gt then G else if FloatKind.f64.format.order (G) 14054727237768577024=some Ordering.lt then G else r,if FloatKind.f64.format.order (G) 4831355200913801216=some Ordering.gt then false else if FloatKind.f64.format.order (G) 14054727237768577024=some Ordering.lt then false else true,hok9 true true,fun w hE=>?_⟩
          clear hok9 hrn
          have e0:=hE.cell hf0
          have e1:=hE.cell f0
          have e2:=hE.cell hy
          generalize hX:(if FloatKind.f64.format.order (G) 4831355200913801216=some Ordering.gt then G else if FloatKind.f64.format.order (G) 14054727237768577024=some Ordering.lt then G else r)=X
          generalize hO:(if FloatKind.f64.format.order (G) 4831355200913801216=some Ordering.gt then false else if FloatKind.f64.format.order (G) 14054727237768577024=some Ordering.lt then false else true)=O
          have HX:=Lib.hid hX;clear hX
          have HO:=Lib.hid hO;clear hO
          go_enter Tryz.func153,Tryz.ntmps153
          go_wp2_with fail
          · go_ret2
            rename_i h9
            rw [←HX.out,←HO.out,if_pos h9,if_pos h9]
            exact ⟨rfl,rfl⟩
          · go_ret2
            rename_i h9 h8
            clear hneg hmul e0 e1 e2
            rw [←HX.out,←HO.out]
            simp [h9] at h8
            simp [h8,h9]
          · go_ret2
            rename_i h9 h8
            clear hneg hmul e0 e1 e2
            rw [←HX.out,←HO.out]
            simp [h9] at h8
            simp [h8,h9]
      · by_cases h22:-22≤p
        · obtain ⟨i,hi⟩:∃ i:Nat,-p=i:=⟨(-p).toNat,by omega⟩
          obtain ⟨y,hy⟩:=f1 i (by omega)
          have hpn:p < 0:=by omega
          have hy9:=hF3 fb fo i y ⟨fc,f0⟩ (by omega) hy
          clear hpos
          cases ng
          · obtain ⟨r,hr,hrn⟩:=div_some hNF hy9
            have hmul:∀ w:World,(binOp .quo 22 (.float .f64 (F)) (.float .f64 y)).run Tryz.prog w=.ok (.float .f64 r) w:=fun w=>run_float_arith w .quo 22 .f64 _ _ r hr
            clear hr hNF hNG hy9
            refine ⟨r,true,fun _=>hrn,fun w hE=>?_⟩
            clear hrn
            have e0:=hE.cell hf0
            have e1:=hE.cell f0
            have e2:=hE.cell hy
            go_enter Tryz.func153,Tryz.ntmps153
            go_wp2_with fail
            go_ret2
            exact ⟨rfl,rfl⟩
          · obtain ⟨r,hr,hrn⟩:=div_some hNG hy9
            have hmul:∀ w:World,(binOp .quo 22 (.float .f64 (G)) (.float .f64 y)).run Tryz.prog w=.ok (.float .f64 r) w:=fun w=>run_float_arith w .quo 22 .f64 _ _ r hr
            clear hr hNF hNG hy9
            refine ⟨r,true,fun _=>hrn,fun w hE=>?_⟩
            clear hrn
            have e0:=hE.cell hf0
            have e1:=hE.cell f0
            have e2:=hE.cell hy
            go_enter Tryz.func153,Tryz.ntmps153
            go_wp2_with fail
            go_ret2
            exact ⟨rfl,rfl⟩
        · have hpn:p < 0:=by omega
          have h22':p < -22:=by omega
          clear h22 hpos
          cases ng
          · refine ⟨F,false,by simp,fun w hE=>?_⟩
            have e0:=hE.cell hf0
            go_enter Tryz.func153,Tryz.ntmps153
            go_wp2_with fail
            go_ret2
            exact ⟨rfl,rfl⟩
          · refine ⟨G,false,by simp,fun w hE=>?_⟩
            have e0:=hE.cell hf0
            go_enter Tryz.func153,Tryz.ntmps153
            go_wp2_with fail
            go_ret2
            exact ⟨rfl,rfl⟩
end Go.Proofs.YtfkecmlmnhbmoaaGreatDoor
namespace Go.Proofs.YtfkecmlmnhbmoaaGreatDoor
open Go Go.RowKit
def indCs:By:=[47,60,40,91,93,62]
theorem ref_scan {la:By} (ho:wordO la false=false) {k:Nat} (hk:Lib.idxFunc (stopZ indCs) true (bs la)=k):(la.take k=wordT la∧la.drop k=wordR la∧k≤la.length)∨(37∈la.take k∧k≤la.length):=by
  have hreg:∀ x∈indCs,isReg (x.toNat:Int)=false:=by decide
  have hs:wordT la ++ wordR la=la:=word_split la
  have hw:∀ c∈wordT la,(c.toNat:Int) < 128∧stopZ indCs c.toNat=false:=fun c hc=>stop_word hreg ((wordO_plain la ho).1 c hc).1 ((wordO_plain la ho).1 c hc).2
  have he:=word_end ho
  generalize wordT la=W at *
  generalize wordR la=R at *
  subst hs
  cases R with
  | nil =>
    have:=idx_true (stopZ indCs) W [] hw (by simp)
    rw [this] at hk;simp at hk
  | cons d R =>
    have key:(stopZ indCs d.toNat=true∧(d.toNat:Int) < 128)→(W ++ d::R).take k=W∧(W ++ d::R).drop k=d::R∧k≤(W ++ d::R).length:=by
      intro hd
      have:=idx_true (stopZ indCs) W (d::R) hw (by intro c hc;simp at hc;subst hc;exact ⟨hd.2,hd.1⟩)
      rw [this,if_neg (by simp)] at hk
      have hkl:k=W.length:=by omega
      subst hkl
      exact ⟨by simp,by simp,by simp⟩
    rcases he d (by simp) with h | h
    · exact .inl (key ⟨(white_stop (cs:=indCs) h).2,(white_stop (cs:=indCs) h).1⟩)
    · by_cases h37:d=37
      · subst h37
        right
        have:=idx_ge (stopZ indCs) (W ++ [37]) R (by
          intro c hc
          rcases List.mem_append.1 hc with hc | hc
          · exact hw c hc
          · simp at hc;subst hc;decide)
        rw [show W ++ [37] ++ R=W ++ 37::R by simp,hk] at this
        rcases this with h1 | ⟨h1,h2⟩
        · omega
        · refine ⟨?_,by omega⟩
          have hk2:W.length + 1≤k:=by simp at h1;omega
          have:(W ++ 37::R).take (W.length + 1)=W ++ [37]:=by rw [show W ++ 37::R=(W ++ [37]) ++ R by simp];exact List.take_left' (by simp)
          have hsub:(W ++ 37::R).take (W.length + 1)=((W ++ 37::R).take k).take (W.length + 1):=by rw [List.take_take,Nat.min_eq_left hk2]
          have hm:(37:UInt8)∈(W ++ 37::R).take (W.length + 1):=by rw [this];simp
          rw [hsub] at hm
          exact List.mem_of_mem_take hm
      · left
        refine key ⟨mem_stop (cs:=indCs) ?_,?_⟩
        · simp only [List.mem_cons,List.not_mem_nil,or_false] at h
          simp only [indCs,List.mem_cons,List.not_mem_nil,or_false]
          rcases h with h | h | h | h | h | h | h
          · exact .inl h
          · exact .inr (.inl h)
          · exact .inr (.inr (.inr (.inr (.inr h))))
          · exact .inr (.inr (.inl h))
          · exact .inr (.inr (.inr (.inl h)))
          · exact .inr (.inr (.inr (.inr (.inl h))))
          · exact absurd h h37
        · simp only [List.mem_cons,List.not_mem_nil,or_false,←UInt8.toNat_inj] at h
          simp at h
          omega
theorem pass_plain {l la:By} (h:passM false l false=(la,false)) (ho:wordO la false=false):∀ c∈la.head?,isPlain (c.toNat:Int)=true:=by
  intro c hc
  have hh:=passM_head l false false c (by rw [h];exact hc)
  cases la with
  | nil=>simp at hc
  | cons d la =>
    simp at hc;subst hc
    by_cases hr:isReg (d.toNat:Int)=true
    · exact ((wordO_plain _ ho).1 d (by simp [wordT,hr])).2
    · have hr':=notreg_range (n:=(d.toNat:Int)) (by simpa using hr)
      have hw:=hh.1
      unfold isWhite at hw
      simp at hw
      unfold isPlain
      simp
      omega
theorem pass_delim {d:UInt8} {R:By} (hd:delZ (d.toNat:Int)=true):passM false (d::R) false=(d::R,false)∧wordT (d::R)=[]:=by
  have h:(d.toNat:Int)=60∨(d.toNat:Int)=62∨(d.toNat:Int)=91∨(d.toNat:Int)=93∨(d.toNat:Int)=40∨(d.toNat:Int)=41∨(d.toNat:Int)=47:=by
    unfold delZ at hd;simp at hd;omega
  have hw:isWhite (d.toNat:Int)=false:=by unfold isWhite;simp;omega
  have h37:((d.toNat:Int) == 37)=false:=by simp;omega
  have hr:isReg (d.toNat:Int)=false:=by
    unfold isReg isDelim
    simp
    omega
  constructor
  · simp [passM,hw,h37]
  · simp [wordT,hr]
theorem num_nil (pf:By→Nat):(numF pf []).2.2.2=1:=by simp [numF,numStrip,numScan]
structure RefS (pf:By→Nat) (n:Int) (R:By) (x:PV) (r la c:By):Prop where
  pass:passM false R false=(la,false)
  odd:wordO la false=false
  alt : (x = .int n ∧ r = R ∧ ((numF pf (wordT la)).2.2.2 = 1 ∨ passM false (wordR la) false = (c, false) ∧ wordO c false = false ∧ headIs (wordT c) (· == 82) = false))
      ∨ (∃ g,x=.ref n g∧r=wordR c∧passM false (wordR la) false=(c,false)∧wordT c=[82]∧Lib.atoiAll (wordT la)=.ok g∧n≠0∧0≤g∧g≤65535∧0≤n∧∃ d t,wordR la=d::t∧isWhite (d.toNat:Int)=true)
theorem passM_suffix:∀ (l:By) (b o:Bool),∃ p,l=p ++ (passM b l o).1:=by
  intro l
  induction l with
  | nil=>intro b o;exact ⟨[],by cases b<;>rfl⟩
  | cons c l ih =>
    intro b o
    cases b
    all_goals
      simp only [passM]
      split
    · obtain ⟨p,hp⟩:=ih false o;exact ⟨c::p,by rw [List.cons_append,←hp]⟩
    · split
      · obtain ⟨p,hp⟩:=ih true o;exact ⟨c::p,by rw [List.cons_append,←hp]⟩
      · exact ⟨[],rfl⟩
    · obtain ⟨p,hp⟩:=ih false o;exact ⟨c::p,by rw [List.cons_append,←hp]⟩
    · obtain ⟨p,hp⟩:=ih true (o || !isPlain (c.toNat:Int));exact ⟨c::p,by rw [List.cons_append,←hp]⟩
theorem RefS.of {pf:By→Nat} {n:Int} {t R:By} {x:PV} {r:By} (h:refF pf n t R false=some (x,r,false)) (hn0:∀ c∈t.head?,isDig (c.toNat:Int)=true→0≤n):∃ la c,RefS pf n R x r la c:=by
  obtain ⟨_,la,c,h1,h2,h3⟩:=refF_inv h
  refine ⟨la,c,h1,h2,?_⟩
  rcases h3 with h3 | ⟨g,e1,e2,e3,e4,e5,e6,e7,e8,e9,e10,e11,e12⟩
  · exact .inl h3
  · right
    obtain ⟨a1,a2,a3⟩:=num_isint e5 e6
    have hn:0≤n:=by
      cases t with
      | nil=>simp [headIs] at e11
      | cons d t=>exact hn0 d (by simp) (by simpa [headIs] using e11)
    have hg : 0 ≤ g := by
      rw [e7]
      cases hw:wordT la with
      | nil=>rw [hw] at e10;simp [headIs] at e10
      | cons d t =>
        rw [hw] at a1 e10
        simp only [headIs] at e10
        have hd:=(isDig_iff d).1 e10
        simp only [Lib.atoiAll] at a1
        rw [if_neg (by omega)] at a1
        have h45:¬d.toNat=45:=by omega
        cases hp:Lib.parseMag (d::t) with
        | range=>rw [hp] at a1;simp at a1
        | ok u =>
          rw [hp] at a1
          simp only [h45] at a1
          split at a1
          · simp at a1
          · split at a1
            · simp at a1
            · simp at a1;omega
        | _=>rw [hp] at a1;simp at a1
    refine ⟨g,e1,e2,e3,e4,by rw [e7];exact a1,e8,hg,e9,hn,?_⟩
    have hlr:wordT la ++ wordR la=la:=word_split la
    cases hr:wordR la with
    | nil=>rw [hr] at e3;simp [passM] at e3;rw [e3] at e4;simp [wordT] at e4
    | cons d q =>
      refine ⟨d,q,rfl,?_⟩
      rcases word_end h2 d (by rw [hr];simp) with hw | hm
      · exact hw
      · exfalso
        have hreg:=wordR_head la d (by rw [hr];simp)
        by_cases h37:d=37
        · subst h37
          have hcon:hasPct (R.take (R.length - (wordR c).length))=true:=by
            obtain ⟨p,hp⟩:=passM_suffix R false false
            rw [h1] at hp
            obtain ⟨p2,hp2⟩:=passM_suffix (37::q) false false
            rw [←hr,e3,hr] at hp2
            simp only at hp hp2
            have hc2:wordT c ++ wordR c=c:=word_split c
            have hp2n:∃ y p3,p2=y::p3:=by
              cases p2 with
              | nil =>
                simp at hp2
                rw [←hp2] at e4
                simp [wordT,isReg,isWhite,isDelim] at e4
              | cons y p3=>exact ⟨y,p3,rfl⟩
            obtain ⟨y,p3,rfl⟩:=hp2n
            have hy:y=37:=by simp at hp2;exact hp2.1.symm
            subst hy
            have hR:R=(p ++ wordT la ++ (37::p3) ++ wordT c) ++ wordR c:=by
              rw [hp]
              conv=>lhs;rw [←hlr,hr,hp2,←hc2]
              simp
            rw [show R.take (R.length - (wordR c).length)=p ++ wordT la ++ (37::p3) ++ wordT c by
              conv=>lhs;arg 2;rw [hR]
              exact List.take_left' (by have:=congrArg List.length hR;simp at this ⊢;omega)]
            simp [hasPct]
          rw [hcon] at e12;exact absurd e12 (by decide)
        · have hdl:isWhite (d.toNat:Int)=false∧(d.toNat:Int)≠37:=by
            constructor
            · simp only [List.mem_cons,List.not_mem_nil,or_false,←UInt8.toNat_inj] at hm
              unfold isWhite
              simp at hm ⊢
              omega
            · intro e;exact h37 (by apply UInt8.toNat_inj.1;simp;omega)
          rw [hr] at e3
          have h37':((d.toNat:Int) == 37)=false:=by simpa using hdl.2
          simp only [passM,hdl.1,h37',Bool.false_eq_true,if_false] at e3
          simp at e3
          rw [←e3] at e4
          simp [wordT,hreg] at e4
end Go.Proofs.YtfkecmlmnhbmoaaGreatDoor
namespace Go.Proofs.YtfkecmlmnhbmoaaGreatDoor
open Go Go.RowKit
def IntPost (w w':World) (b:Nat) (n:Int) (x:PV) (r:By) (e:Ending):Prop :=
  ((x=.int n∧e=intI n)∨∃ g,x=.ref n g∧e=refI n g∧0 < n∧0≤g∧g≤65535)∧LineAt w' b r∧w.grownBy w' (some b)
theorem RefS.isInt {pf:By→Nat} {n:Int} {R:By} {x:PV} {r la c:By} (h:RefS pf n R x r la c) (hw:wordT la=[]):x=.int n∧r=R:=by
  rcases h.alt with ⟨h1,h2,_⟩ | ⟨g,h1,h2,h3,h4,h5,_⟩
  · exact ⟨h1,h2⟩
  · rw [hw] at h5;simp [Lib.atoiAll] at h5
theorem white_nodel {n:Int} (h:isWhite n=true):delZ n=false:=by
  have:=white_range h
  unfold delZ
  simp
  omega
theorem head_82 {c:By} (h:wordT c=[82]):c.head?=some 82∧wordR c=c.tail:=by
  have hs:=word_split c
  rw [h] at hs
  have h2:(82::wordR c).head?=c.head?:=by rw [show (82:UInt8)::wordR c=[82] ++ wordR c from rfl,hs]
  have h3:(82::wordR c).tail=c.tail:=by rw [show (82:UInt8)::wordR c=[82] ++ wordR c from rfl,hs]
  exact ⟨by rw [←h2];rfl,by rw [←h3];rfl⟩
theorem RefS.pos {pf:By→Nat} {n:Int} {R:By} {x:PV} {r la c:By} (h:RefS pf n R x r la c) (hx:¬(x=.int n∧r=R)) :
    ∃ g d t,x=.ref n g∧r=wordR c∧passM false (wordR la) false=(c,false)∧wordT c=[82]∧Lib.atoiAll (wordT la)=.ok g∧0 < n∧0≤g∧g≤65535∧wordR la=d::t∧delZ (d.toNat:Int)=false∧Lib.idxFunc (stopZ indCs) true (bs la)=(wordT la).length∧0 < (wordT la).length:=by
  rcases h.alt with ⟨h1,h2,_⟩ | ⟨g,h1,h2,h3,h4,h5,h6,h7,h8,h9,d,t,h10,h11⟩
  · exact absurd ⟨h1,h2⟩ hx
  · have hne:wordT la≠[]:=by intro e;rw [e] at h5;simp [Lib.atoiAll] at h5
    refine ⟨g,d,t,h1,h2,h3,h4,h5,by omega,h7,h8,h10,white_nodel h11,?_,List.length_pos_iff.2 hne⟩
    have:=idx_true (stopZ indCs) (wordT la) (wordR la) (fun c hc=>stop_word (by decide) ((wordO_plain la h.odd).1 c hc).1 ((wordO_plain la h.odd).1 c hc).2) (by
      rw [h10];intro c hc;simp at hc;subst hc;exact ⟨(white_stop (cs:=indCs) h11).1,(white_stop (cs:=indCs) h11).2⟩)
    rw [word_split,if_neg (by rw [h10];simp)] at this
    exact this
theorem RefS.noPos {pf:By→Nat} {n:Int} {R:By} {x:PV} {r la c:By} (h:RefS pf n R x r la c) (hk:Lib.idxFunc (stopZ indCs) true (bs la)≤0∨∃ d t k,Lib.idxFunc (stopZ indCs) true (bs la)=(k:Nat)∧la.drop k=d::t∧delZ (d.toNat:Int)=true):x=.int n∧r=R:=by
  by_cases hx:x=.int n∧r=R
  · exact hx
  · obtain ⟨g,d,t,_,_,_,_,_,_,_,_,h10,h11,h12,h13⟩:=h.pos hx
    exfalso
    rcases hk with hk | ⟨d2,t2,k,hk,hd,hdl⟩
    · omega
    · have hkl:k=(wordT la).length:=by omega
      subst hkl
      have:la.drop (wordT la).length=wordR la:=by
        conv=>lhs;arg 2;rw [←word_split la]
        simp
      rw [this,h10] at hd
      injection hd with hd _
      rw [hd] at h11
      rw [h11] at hdl;exact absurd hdl (by decide)
set_option maxRecDepth 100000 in
set_option maxHeartbeats 40000000 in
theorem int105_any (pf:By→Nat) (W0 w:World) (hI:InitP W0) (hE:Env W0 w) (b:Nat) (l:By) (hL:LineAt w b l) (hl:l.length≤1000000) (ho:wordO l false=false) (hne:wordT l≠[]) (n:Int) (hn1:(numF pf (wordT l)).2.2.2≠1) (hat:Lib.atoiAll (wordT l)=.ok n) (x:PV) (r la c:By) (hS:RefS pf n (wordR l) x r la c) (hW0:W0.heap.size≤b) :
    Calls Tryz.prog 105 #[.pointer (some ⟨b,0,none⟩)] w fun e w'=>IntPost w w' b n x r e:=by
  have hwl:(wordT l).length≤l.length:=(List.takeWhile_sublist _).length_le
  have hrl:(wordR l).length≤l.length:=(List.dropWhile_sublist _).length_le
  have hst:=fun w=>start_any pf l ho hne hn1 hl w
  obtain ⟨c0,f0⟩:=hL.cell
  have hnob:∃ c t,l=c::t:=by cases l with | nil=>simp [wordT] at hne | cons c t=>exact ⟨c,t,rfl⟩
  have hnb:Calls Tryz.prog 67 #[.pointer (some ⟨b,0,none⟩)] w fun e w'=>e=.returned (.bool false)∧∃ n,w'=w.drewN n:=by
    obtain ⟨c,t,rfl⟩:=hnob
    exact nobuf_any w b c t hL
  have hWpos:0 < (wordT l).length:=List.length_pos_iff.2 hne
  obtain ⟨z,hz⟩:∃ z,z=bs l:=⟨_,rfl⟩
  have hzs:z.size=l.length:=by rw [hz,bs_size]
  have hzx:z.extract (wordT l).length z.size=bs (wordR l):=by
    rw [hzs,hz,bs_drop];congr 1
    conv=>lhs;arg 2;rw [←word_split l]
    simp
  have hzg:∀ (d:UInt8) (t:By),wordR l=d::t→∃ hk:(wordT l).length < z.size,z[(wordT l).length]'hk=d:=by
    intro d t ht
    obtain ⟨hk,hget⟩:=bs_at (l:=l) (pre:=wordT l) (c:=d) (post:=t) (by rw [←ht,word_split])
    exact ⟨by rw [hz];exact hk,by simp only [hz];exact hget⟩
  rw [←hz] at c0
  have hst':=hst
  simp only [←hz] at hst'
  have HL:=Lib.hid hL
  have HI:=Lib.hid hI
  have HE:=Lib.hid hE
  have Hat:=Lib.hid hat
  have HS:=Lib.hid hS
  have Hzg:=Lib.hid hzg
  obtain ⟨W,hW⟩:∃ W,W=wordT l:=⟨_,rfl⟩
  obtain ⟨R,hR⟩:∃ R,R=wordR l:=⟨_,rfl⟩
  rw [←hW,←hR] at hst' hzx
  rw [←hW] at Hat hwl hWpos Hzg
  rw [←hR] at HS Hzg hrl
  clear hL hI hE hat hn1 ho hne hW hR hnob hz hS hst hzg
  have hWl:W.length≤1000000:=by omega
  have hWz:W.length≤z.size:=by omega
  obtain ⟨m,hm⟩:∃ m,m=W.length:=⟨_,rfl⟩
  rw [←hm] at hst' hzx hWl hWz hWpos Hzg
  have hmW:m≤1000000:=hWl
  clear hzs hwl
  have Hm:=Lib.hid hm
  clear hm
  go_enter Tryz.func105,Tryz.ntmps105
  go_wp2_with fail
  refine hnb.mono ?_
  rintro e w1 ⟨rfl,n1,hw1⟩
  subst w1
  go_wp2_with fail
  refine (hst' _).mono ?_
  rintro e w2 ⟨rfl,hb2⟩
  have hg2:w.grownBy w2 none:=gr_of_below (w:=w) ⟨hb2.os,hb2.tape,hb2.output,hb2.size,hb2.block⟩
  have HG2:=Lib.hid hg2
  clear hst' hnb hb2 hg2
  have hatoi:=fun (w3:World) (h:Env W0 w3)=>Tryz.strconv_Atoi_ok (bs W) (by rw [bs_size];have:=Hm.out;omega) n (by rw [bs_list];exact Hat.out) w3
  by_cases hRn:R=[]
  · subst hRn
    simp only [if_true]
    obtain ⟨hx,hr⟩:=HS.out.isInt (by have:=HS.out.pass;simp [passM] at this;simp [this,wordT])
    have Hx:=Lib.hid hx
    have Hr:=Lib.hid hr
    clear hx hr
    go_wp2_with fail
    refine (hatoi _ (HE.out.grown0 HG2.out)).mono ?_
    rintro e w3 ⟨rfl,hw3⟩
    have hg3:w2.grownBy w3 none:=by rcases hw3 with rfl | ⟨t,rfl⟩;exact World.grownBy.refl _ _;exact bytesWorld_gr _ _ _
    have hG3:=HG2.out.trans hg3
    have hL3:=HL.out.keep hG3 (by simp)
    obtain ⟨c3,f3⟩:=hL3.cell
    have HL3:=Lib.hid hL3
    have HG3:=Lib.hid (hG3.but (some b))
    clear hg3 hw3 hG3 hL3 hatoi
    go_wp2_with fail
    go_ret2
    exact ⟨.inl ⟨Hx.out,rfl⟩,by rw [Hr.out];exact HL3.out.set _,gr_set HG3.out _ _⟩
  · rw [if_neg hRn]
    obtain ⟨d,R',hRd⟩:∃ d R',R=d::R':=by cases R with | nil=>exact absurd rfl hRn | cons d R'=>exact ⟨d,R',rfl⟩
    obtain ⟨hk,hget⟩:=Hzg.out d R' hRd
    have HRd:=Lib.hid hRd
    clear hRd
    go_wp2_with fail
    refine (hatoi _ (HE.out.grown0 HG2.out)).mono ?_
    rintro e w3 ⟨rfl,hw3⟩
    have hg3:w2.grownBy w3 none:=by rcases hw3 with rfl | ⟨t,rfl⟩;exact World.grownBy.refl _ _;exact bytesWorld_gr _ _ _
    have hG3:=HG2.out.trans hg3
    have hL3:=HL.out.keep hG3 (by simp)
    obtain ⟨c3,f3⟩:=hL3.cell
    have HL3:=Lib.hid hL3
    have HG3:=Lib.hid hG3
    clear hg3 hw3 hG3 hL3 hatoi
    go_wp2_with fail
    refine (del_any (d.toNat:Int) _).mono ?_
    rintro e w4 ⟨rfl,hw4⟩
    subst w4
    rcases Bool.eq_false_or_eq_true (delZ (d.toNat:Int)) with hd | hd
    · rw [hd]
      obtain ⟨hp1,hp2⟩:=pass_delim (R:=R') hd
      obtain ⟨hx,hr⟩:=HS.out.isInt (by
        have:=HS.out.pass
        rw [HRd.out,hp1] at this
        simp at this
        rw [←this];exact hp2)
      have Hx:=Lib.hid hx
      have Hr:=Lib.hid hr
      clear hx hr hp1 hp2
      go_wp2_with fail
      go_ret2
      exact ⟨.inl ⟨Hx.out,rfl⟩,by rw [Hr.out];exact HL3.out.set _,gr_set (HG3.out.but (some b)) _ _⟩
    · rw [hd]
      go_wp2_with fail
      refine (trim_any2 R la _ HS.out.pass (pass_plain HS.out.pass HS.out.odd)).mono ?_
      rintro e w4 ⟨⟨q,hq,rfl⟩,hb4⟩
      have hG4:=HG3.out.trans (gr_of_below hb4)
      have hL4:=HL3.out.keep (gr_of_below hb4) (by simp)
      obtain ⟨c4,f4⟩:=hL4.cell
      have HL4:=Lib.hid hL4
      have HG4:=Lib.hid hG4
      have Hq:=Lib.hid hq
      clear hb4 hG4 hL4 hq c3 f3 HL3 HG3
      cases q with
      | nil =>
        have hla:la=[]:=by rcases Hq.out with h | ⟨_,h⟩;exact h.symm;simp at h
        obtain ⟨hx,hr⟩:=HS.out.isInt (by rw [hla];rfl)
        have Hx:=Lib.hid hx
        have Hr:=Lib.hid hr
        have hz0:(((bs ([]:By)).size:Int) == 0)=true:=by rw [bs_size];rfl
        clear hx hr hla
        go_wp2_with fail
        go_ret2
        exact ⟨.inl ⟨Hx.out,rfl⟩,by rw [Hr.out];exact HL4.out.set _,gr_set (HG4.out.but (some b)) _ _⟩
      | cons y q =>
        obtain ⟨p,hp⟩:∃ p,p=y::q:=⟨_,rfl⟩
        rw [←hp] at Hq ⊢
        have hql:p.length≤1000001:=by
          rcases Hq.out with h | ⟨_,h⟩
          · rw [h]
            have:=passM_len false R false
            rw [HS.out.pass] at this
            simp only at this
            omega
          · rw [h];simp
        obtain ⟨z2,hz2⟩:∃ z2,z2=bs p:=⟨_,rfl⟩
        have hz0:((z2.size:Int) == 0)=false:=by rw [hz2,bs_size,hp];simp only [List.length_cons,beq_eq_false_iff_ne];omega
        have hpos:=pos_any (bs p) indCs (by decide) (by decide)
        obtain ⟨k2,hk2⟩:∃ k2,k2=Lib.idxFunc (stopZ indCs) true (bs p):=⟨_,rfl⟩
        rw [←hk2] at hpos
        have hrg:=Lib.idxFunc_range (stopZ indCs) true (bs p)
        rw [←hk2] at hrg
        rw [←hz2] at hrg
        have hzs2:z2.size=p.length:=by rw [hz2,bs_size]
        have ecs:(⟨#[47,60,40,91,93,62]⟩:ByteArray)=bs indCs:=rfl
        have hposz:=hpos
        simp only [←hz2] at hposz
        rw [←hz2]
        have Hz2:=Lib.hid hz2
        have Hk2:=Lib.hid hk2
        have Hzs2:=Lib.hid hzs2
        have Hp:=Lib.hid hp
        clear hpos hz2 hk2 hzs2 hp
        go_wp2_with fail
        refine (hposz _).mono ?_
        rintro e w5 ⟨⟨v5,rfl⟩,hb5⟩
        have hG5:=HG4.out.trans (gr_of_below hb5)
        have hL5:=HL4.out.keep (gr_of_below hb5) (by simp)
        obtain ⟨c5,f5⟩:=hL5.cell
        have HL5:=Lib.hid hL5
        have HG5:=Lib.hid hG5
        clear hb5 hG5 hL5 c4 f4 HL4 HG4 hposz ecs
        have hpla:p=[37]→k2=-1:=by
          intro e
          rw [Hk2.out,e]
          have:=idx_true (stopZ indCs) [37] [] (by decide) (by simp)
          simpa using this
        have Hpla:=Lib.hid hpla
        clear hpla
        by_cases hk0:k2≤0
        · obtain ⟨hx,hr⟩:x=.int n∧r=R:=by
            rcases Hq.out with h | ⟨h,_⟩
            · exact HS.out.noPos (.inl (by rw [←h,←Hk2.out];exact hk0))
            · exact HS.out.isInt (by rw [h];rfl)
          have Hx:=Lib.hid hx
          have Hr:=Lib.hid hr
          clear hx hr
          go_wp2_with fail
          go_ret2
          exact ⟨.inl ⟨Hx.out,rfl⟩,by rw [Hr.out];exact HL5.out.set _,gr_set (HG5.out.but (some b)) _ _⟩
        · have hpq:p=la:=by
            rcases Hq.out with h | ⟨_,h⟩
            · exact h
            · have:=Hpla.out h;omega
          obtain ⟨k,hk⟩:∃ k:Nat,k2=k:=⟨k2.toNat,by omega⟩
          subst hk
          have hklt:k < z2.size:=by omega
          have hkp:0 < k:=by omega
          have hkl:k < p.length:=by rw [←Hzs2.out];exact hklt
          obtain ⟨f,t,hft⟩:∃ f t,p.drop k=f::t:=⟨p[k],p.drop (k + 1),List.drop_eq_getElem_cons hkl⟩
          have hsp:p=p.take k ++ f::t:=by rw [←hft,List.take_append_drop]
          obtain ⟨hkk,hgetk⟩:=bs_at (l:=p) (pre:=p.take k) (c:=f) (post:=t) hsp
          have htl:(p.take k).length=k:=by rw [List.length_take];omega
          have hget5:z2[k]'hklt=f:=by
            have:=hgetk
            simp only [htl] at this
            simp only [Hz2.out];exact this
          have hcut:z2.extract 0 k=bs (p.take k):=by rw [Hz2.out,bs_take]
          have Hft:=Lib.hid hft
          have Hpq:=Lib.hid hpq
          have hk2l:k≤1000001:=by omega
          clear hsp hkk hgetk htl hft hpq hrg
          go_wp2_with fail
          refine (del_any (f.toNat:Int) _).mono ?_
          rintro e w6 ⟨rfl,hw6⟩
          subst w6
          rcases Bool.eq_false_or_eq_true (delZ (f.toNat:Int)) with hfd | hfd
          · rw [hfd]
            obtain ⟨hx,hr⟩:x=.int n∧r=R:=HS.out.noPos (.inr ⟨f,t,k,by rw [←Hpq.out,←Hk2.out],by rw [←Hpq.out,Hft.out],hfd⟩)
            have Hx:=Lib.hid hx
            have Hr:=Lib.hid hr
            clear hx hr
            go_wp2_with fail
            go_ret2
            exact ⟨.inl ⟨Hx.out,rfl⟩,by rw [Hr.out];exact HL5.out.set _,gr_set (HG5.out.but (some b)) _ _⟩
          · rw [hfd]
            go_wp2_with fail
            rw [Hz2.out]
            have hE5:=HE.out.grown0 HG5.out
            have hpl:p.length≤1000000:=by
              have h1:=passM_len false R false
              rw [HS.out.pass] at h1
              simp only at h1
              rw [Hpq.out];omega
            have hTl:(p.take k).length≤1000000:=by rw [List.length_take];omega
            have hkl':k≤p.length:=Nat.le_of_lt hkl
            have hpq:=Hpq.out
            subst hpq
            by_cases hSok:∃ g,Lib.atoiAll (p.take k)=.ok g
            · obtain ⟨g,hg⟩:=hSok
              have hsc:=ref_scan HS.out.odd (k:=k) (by exact Hk2.out.symm)
              rcases hsc with ⟨hs1,hs2,_⟩ | ⟨h37,_⟩
              · have hpc:passM false (p.drop k) false=(c,false)∧∀ x∈c.head?,isPlain (x.toNat:Int)=true:=by
                  rcases HS.out.alt with ⟨_,_,h | ⟨h,h',_⟩⟩ | ⟨g',_,_,h,h',_⟩
                  · exact absurd h (atoi_state (by rw [hs1] at hg;exact hg))
                  · rw [hs2];exact ⟨h,pass_plain h h'⟩
                  · rw [hs2];exact ⟨h,by rw [(head_82 h').1];intro x hx;simp at hx;subst hx;decide⟩
                refine (ind_ok W0 w5 HI.out hE5 b (p.take k) p R l c n g k HL5.out hg hTl hpl hkl' hpc.1 hpc.2).mono ?_
                intro e w6 hi
                obtain ⟨hi1,hg6⟩:=hi
                have hG6:=HG5.out.but (some b) |>.trans hg6
                rw [hs1] at hg
                rcases HS.out.alt with ⟨hx,hr,h⟩ | ⟨g',hx,hr,h1,h2,h3,h4,h5,h6,h7,h8⟩
                · have h82:c.head?≠some 82:=by
                    rcases h with h | ⟨_,_,h⟩
                    · exact absurd h (atoi_state hg)
                    · intro e
                      cases c with
                      | nil=>simp at e
                      | cons y c=>simp at e;subst e;simp [wordT,isReg,isWhite,isDelim,headIs] at h
                  rcases hi1 with ⟨h,_⟩ | ⟨_,he,hL6⟩
                  · exact absurd h h82
                  · unfold intI at he
                    subst he
                    have Hx:=Lib.hid (And.intro hx hr)
                    have HL6:=Lib.hid hL6
                    have HG6:=Lib.hid hG6
                    clear hL6 hG6 hg6 hx hr h
                    go_wp2_with fail
                    go_ret2
                    exact ⟨.inl ⟨Hx.out.1,rfl⟩,by rw [Hx.out.2];exact HL6.out,HG6.out⟩
                · obtain rfl:g'=g:=by rw [h3] at hg;injection hg
                  have h82:=head_82 h2
                  rcases hi1 with ⟨_,he,hL6⟩ | ⟨h,_⟩
                  · unfold refI at he
                    subst he
                    have Hx:=Lib.hid (And.intro hx (And.intro hr (And.intro (show 0 < n by omega) (And.intro h5 h6))))
                    have HL6:=Lib.hid hL6
                    have HG6:=Lib.hid hG6
                    have H82:=Lib.hid h82
                    clear hL6 hG6 hg6 hx hr h1 h2 h3 h4 h5 h6 h7 h8 h82
                    go_wp2_with fail
                    go_ret2
                    exact ⟨.inr ⟨g',Hx.out.1,rfl,Hx.out.2.2.1,Hx.out.2.2.2.1,Hx.out.2.2.2.2⟩,by rw [Hx.out.2.1,H82.out.2];exact HL6.out,HG6.out⟩
                  · exact absurd h82.1 h
              · exact absurd (atoi_nopct hg 37 h37) (by decide)
            · have hSn:∀ u,Lib.atoiAll (p.take k)≠.ok u:=fun u hu=>hSok ⟨u,hu⟩
              refine (ind_err W0 w5 HI.out hE5 b (p.take k) p R l n k HL5.out hSn hTl).mono ?_
              rintro e w6 ⟨he,hL6,hg6⟩
              unfold intI at he
              subst he
              obtain ⟨hx,hr⟩:x=.int n∧r=R:=by
                by_cases hx:x=.int n∧r=R
                · exact hx
                · obtain ⟨g,d,t,_,_,_,_,h5,_,_,_,h10,h11,h12,h13⟩:=HS.out.pos hx
                  have hkl2:k=(wordT p).length:=by have:=Hk2.out;omega
                  have htk:p.take k=wordT p:=by
                    rw [hkl2]
                    conv=>lhs;arg 2;rw [←word_split p]
                    simp
                  rw [htk] at hSn
                  exact absurd h5 (hSn g)
              have Hx:=Lib.hid (And.intro hx hr)
              have HL6:=Lib.hid hL6
              have HG6:=Lib.hid ((HG5.out.but (some b)).trans hg6)
              clear hL6 hg6 hx hr hSn
              go_wp2_with fail
              go_ret2
              exact ⟨.inl ⟨Hx.out.1,rfl⟩,by rw [Hx.out.2];exact HL6.out,HG6.out⟩
end Go.Proofs.YtfkecmlmnhbmoaaGreatDoor
