/- FnParse: the texts P10 P11 P12 P13 of the workbench, laid together. -/
import Derived.Shelf.GgClosure.StringsTrimFunc
import Derived.Laws.RangeString
import Derived.Test.YtfkecmlmnhbmoaaGreatDoorZ16
set_option linter.unusedVariables false
set_option linter.unusedSimpArgs false
namespace Go.Proofs.YtfkecmlmnhbmoaaGreatDoor
theorem refF_inv {pf:By→Nat} {n:Int} {t l:By} {o:Bool} {x:PV} {r:By} (h:refF pf n t l o=some (x,r,false)) :
    o = false ∧ ∃ la c : By, passM false l false = (la, false) ∧ wordO la false = false ∧
      ((x=.int n∧r=l∧((numF pf (wordT la)).2.2.2=1∨passM false (wordR la) false=(c,false)∧wordO c false=false∧headIs (wordT c) (· == 82)=false))
      ∨ (∃ g,x=.ref n g∧r=wordR c∧passM false (wordR la) false=(c,false)∧wordT c=[82]∧(numF pf (wordT la)).2.2.2=0∧(numF pf (wordT la)).1=2∧g=(numF pf (wordT la)).2.1∧n≠0∧g≤65535∧headIs (wordT la) isDig=true∧headIs t isDig=true∧hasPct (l.take (l.length - (wordR c).length))=false)):=by
  have hp:=passM_odd l false o
  simp only [refF] at h
  generalize hA:passM false l o=a at h hp
  obtain ⟨la,oa⟩:=a
  have hw:=wordO_odd la oa
  simp only at h hp
  split at h
  · rename_i h1
    simp at h h1
    obtain ⟨rfl,rfl,rfl,hob⟩:=h
    have hoa:=hw hob
    subst hoa
    exact ⟨rfl,la,[],hA,hob,.inl ⟨rfl,rfl,.inl h1⟩⟩
  · rename_i h1
    have hp2:=passM_odd (wordR la) false (wordO la oa)
    generalize hC:passM false (wordR la) (wordO la oa)=c at h hp2
    obtain ⟨c,oc⟩:=c
    have hw2:=wordO_odd c oc
    simp only at h hp2
    split at h
    · simp at h
      obtain ⟨rfl,rfl,⟨rfl,hoc⟩,hh⟩:=h
      have e1:=hw2 hoc
      subst e1
      have e2:=hp2 rfl
      have e3:=hw e2
      subst e3
      rw [e2] at hC
      exact ⟨rfl,la,c,hA,e2,.inl ⟨rfl,rfl,.inr ⟨hC,hoc,hh⟩⟩⟩
    · rename_i h2
      split at h
      · simp at h
      · rename_i h3
        simp at h
        obtain ⟨rfl,rfl,hoc,hpc⟩:=h
        have e1:=hw2 hoc
        subst e1
        have e2:=hp2 rfl
        have e3:=hw e2
        subst e3
        have e4:=hp rfl
        subst e4
        rw [e2] at hC
        simp only [not_or,Decidable.not_not,Bool.not_eq_false] at h2
        simp only [beq_iff_eq,not_or] at h3
        exact ⟨rfl,la,c,hA,e2,.inr ⟨_,rfl,rfl,hC,h2.1,h2.2.1,h2.2.2.1,rfl,h3.1,by omega,h2.2.2.2.1,h2.2.2.2.2,hpc⟩⟩
theorem refF_odd {pf:By→Nat} {n:Int} {t l:By} {o:Bool} {x:PV} {r:By} (h:refF pf n t l o=some (x,r,false)):o=false:=(refF_inv h).1
theorem rdNum_odd {pf:By→Nat} {l:By} {o:Bool} {x:PV} {r:By} (h:rdNum pf l o=some (x,r,false)):o=false∧wordO l false=false:=by
  have key:wordO l o=false→o=false∧wordO l false=false:=by
    intro hw
    have:=wordO_odd l o hw
    subst this
    exact ⟨rfl,hw⟩
  simp only [rdNum] at h
  repeat' split at h
  all_goals first
    | (simp at h;exact key h.2.2)
    | (simp at h;done)
    | exact key (refF_odd h)
theorem rdArr_odd {f:By→Bool→Rd PV} (hf:∀ l o x r,f l o=some (x,r,false)→o=false):∀ (m:Nat) (l:By) (o:Bool) (acc kids:List PV) (r:By),rdArr f m l o acc=some (kids,r,false)→o=false:=by
  intro m
  induction m with
  | zero=>intro l o acc kids r h;simp [rdArr] at h
  | succ m ih =>
    intro l o acc kids r h
    have hp:=passM_odd l false o
    simp only [rdArr] at h
    generalize passM false l o=a at h hp
    obtain ⟨la,oa⟩:=a
    simp only at h hp
    split at h
    · simp at h
      exact hp h.2.2
    · split at h
      · simp at h
      · rename_i x l2 o2 e
        have h2:=ih _ _ _ _ _ h
        subst h2
        exact hp (hf _ _ _ _ e)
theorem rdDict_odd {f:By→Bool→Rd PV} (hf:∀ l o x r,f l o=some (x,r,false)→o=false):∀ (m:Nat) (l:By) (o:Bool) (ks:List By) (acc:List PV) (res:List By × List PV) (r:By),rdDict f m l o ks acc=some (res,r,false)→o=false:=by
  intro m
  induction m with
  | zero=>intro l o ks acc res r h;simp [rdDict] at h
  | succ m ih =>
    intro l o ks acc res r h
    have hp:=passM_odd l false o
    simp only [rdDict] at h
    generalize passM false l o=a at h hp
    obtain ⟨la,oa⟩:=a
    have hw:=wordO_odd la.tail oa
    simp only at h hp
    split at h
    · simp at h
      exact hp h.2.2
    · split at h
      · split at h
        · simp at h
        · split at h
          · simp at h
          · split at h
            · simp at h
            · rename_i x l2 o2 e
              have h2:=ih _ _ _ _ _ _ h
              subst h2
              exact hp (hw (hf _ _ _ _ e))
      · simp at h
theorem rdV_odd (pf:By→Nat):∀ (n:Nat) (l:By) (o:Bool) (x:PV) (r:By),rdV pf n l o=some (x,r,false)→o=false:=by
  intro n
  induction n with
  | zero=>intro l o x r h;simp [rdV] at h
  | succ n ih =>
    intro l o x r h
    have hp:=passM_odd l false o
    simp only [rdV] at h
    generalize passM false l o=a at h hp
    obtain ⟨la,oa⟩:=a
    simp only at h hp
    cases la with
    | nil=>simp at h
    | cons c la =>
      simp only at h
      split at h
      · simp at h
        obtain ⟨_,_,_,_,_,h⟩:=h
        exact hp h
      · split at h
        · rw [Option.map_eq_some_iff] at h
          obtain ⟨⟨q,r1,o1⟩,e,h⟩:=h
          simp at h
          obtain ⟨_,rfl,rfl⟩:=h
          exact hp (rdDict_odd ih _ _ _ _ _ _ _ e)
        · split at h
          · split at h
            · simp at h
              exact hp (hexF_odd _ _ _ _ _ h.2.2)
            · simp at h
          · split at h
            · simp at h
              obtain ⟨_,_,_,_,h⟩:=h
              exact hp (wordO_odd _ _ h)
            · split at h
              · rw [Option.map_eq_some_iff] at h
                obtain ⟨⟨q,r1,o1⟩,e,h⟩:=h
                simp at h
                obtain ⟨_,rfl,rfl⟩:=h
                exact hp (rdArr_odd ih _ _ _ _ _ _ e)
              · split at h
                · simp at h
                · exact hp (rdNum_odd h).1
theorem rdV_inv {pf:By→Nat} {n:Nat} {l:By} {o:Bool} {x:PV} {r:By} (h:rdV pf (n + 1) l o=some (x,r,false)) :
    o = false ∧ ∃ c l1, passM false l false = (c :: l1, false) ∧ isWhite (c.toNat : Int) = false ∧ (c.toNat : Int) ≠ 37 ∧
      (((c.toNat:Int)=40∧∃ t,litF (c::l1) 0 []=some (t,r)∧x=.str t)
      ∨ ((c.toNat:Int)=60∧∃ l2,l1=60::l2∧∃ ks vs,rdDict (rdV pf n) l2.length l2 false [] []=some ((ks,vs),r,false)∧x=.dict ks vs)
      ∨ ((c.toNat:Int)=60∧is2 (c::l1) 60=false∧∃ t,hexF l1 false 0 [] false=(0,t,r,false)∧x=.str t)
      ∨ ((c.toNat:Int)=47∧∃ k,nameB (wordT l1) []=some k∧r=wordR l1∧wordO l1 false=false∧x=.name k)
      ∨ ((c.toNat:Int)=91∧∃ kids,rdArr (rdV pf n) l1.length l1 false []=some (kids,r,false)∧x=.arr kids)
      ∨ (isDelim (c.toNat:Int)=false∧rdNum pf (c::l1) false=some (x,r,false))):=by
  have ho:=rdV_odd pf _ _ _ _ _ h
  subst ho
  refine ⟨rfl,?_⟩
  have hp:=passM_odd l false false
  have hhd:=passM_head l false false
  simp only [rdV] at h
  generalize passM false l false=a at h hp hhd
  obtain ⟨la,oa⟩:=a
  simp only at h hp hhd
  cases la with
  | nil=>simp at h
  | cons c la =>
    obtain ⟨hw,h37⟩:=hhd c (by simp)
    simp only at h
    split at h
    · rename_i h40
      simp at h h40
      obtain ⟨t,r1,e,rfl,rfl,rfl⟩:=h
      exact ⟨c,la,rfl,hw,h37,.inl ⟨h40,t,e,rfl⟩⟩
    · split at h
      · rename_i h60
        rw [Option.map_eq_some_iff] at h
        obtain ⟨⟨q,r1,o1⟩,e,h⟩:=h
        simp at h
        obtain ⟨rfl,rfl,rfl⟩:=h
        have e1:=rdDict_odd (rdV_odd pf n) _ _ _ _ _ _ _ e
        subst e1
        cases la with
        | nil=>simp [is2] at h60
        | cons d la =>
          simp [is2] at h60
          have hd:d=60:=by apply UInt8.toNat_inj.1;have:=h60.2;simp;omega
          subst hd
          exact ⟨c,_,rfl,hw,h37,.inr (.inl ⟨h60.1,la,rfl,q.1,q.2,e,rfl⟩)⟩
      · rename_i hn60
        split at h
        · rename_i h60
          split at h
          · rename_i hh
            simp at h hh h60
            obtain ⟨rfl,rfl,ho2⟩:=h
            have e1:=hexF_odd _ _ _ _ _ ho2
            subst e1
            refine ⟨c,la,rfl,hw,h37,.inr (.inr (.inl ⟨h60,by simpa using hn60,_,?_,rfl⟩))⟩
            exact Prod.ext hh (Prod.ext rfl (Prod.ext rfl ho2))
          · simp at h
        · split at h
          · rename_i h47
            simp at h h47
            obtain ⟨k,e,rfl,rfl,ho2⟩:=h
            have e1:=wordO_odd _ _ ho2
            subst e1
            exact ⟨c,la,rfl,hw,h37,.inr (.inr (.inr (.inl ⟨h47,k,e,rfl,ho2,rfl⟩)))⟩
          · split at h
            · rename_i h91
              rw [Option.map_eq_some_iff] at h
              obtain ⟨⟨q,r1,o1⟩,e,h⟩:=h
              simp at h h91
              obtain ⟨rfl,rfl,rfl⟩:=h
              have e1:=rdArr_odd (rdV_odd pf n) _ _ _ _ _ _ e
              subst e1
              exact ⟨c,la,rfl,hw,h37,.inr (.inr (.inr (.inr (.inl ⟨h91,q,e,rfl⟩))))⟩
            · split at h
              · simp at h
              · rename_i hd
                have e1:=(rdNum_odd h).1
                subst e1
                exact ⟨c,la,rfl,hw,h37,.inr (.inr (.inr (.inr (.inr ⟨by simpa using hd,h⟩))))⟩
end Go.Proofs.YtfkecmlmnhbmoaaGreatDoor
namespace Go.Proofs.YtfkecmlmnhbmoaaGreatDoor
theorem numScan_chars:∀ (l:By) (d p a:Int) (r:Int × Int × Int),numScan l d p a=some r→∀ c∈l,isDig (c.toNat:Int)=true∨(c.toNat:Int)=46:=by
  intro l
  induction l with
  | nil=>intro d p a r _ c hc;simp at hc
  | cons e l ih =>
    intro d p a r h c hc
    simp only [numScan] at h
    split at h
    · rename_i hd
      rcases List.mem_cons.1 hc with rfl | hc
      · exact .inl hd
      · exact ih _ _ _ _ h c hc
    · split at h
      · rename_i hp
        rcases List.mem_cons.1 hc with rfl | hc
        · exact .inr (by simpa using hp)
        · exact ih _ _ _ _ h c hc
      · simp at h
theorem numScan_mono:∀ (l:By) (d p a:Int) (D P A:Int),numScan l d p a=some (D,P,A)→d≤D∧p≤P∧a≤A:=by
  intro l
  induction l with
  | nil=>intro d p a D P A h;simp [numScan] at h;omega
  | cons e l ih =>
    intro d p a D P A h
    simp only [numScan] at h
    split at h
    · have:=ih _ _ _ _ _ _ h
      split at this<;>omega
    · split at h
      · have:=ih _ _ _ _ _ _ h
        omega
      · simp at h
theorem isDig_iff (c:UInt8):isDig (c.toNat:Int)=true↔48≤c.toNat∧c.toNat≤57:=by
  simp [isDig];omega
theorem parse_dot:∀ (l:By) (d:Int) (a:Nat) (acc:Nat) (D A:Int),numScan l d 0 a=some (D,1,A)→A≤14→acc < 10 ^ a→Lib.parseUint10 acc l=Lib.parseMag []:=by
  intro l
  induction l with
  | nil=>intro d a acc D A h;simp [numScan] at h
  | cons c l ih =>
    intro d a acc D A h hA hacc
    have hm:=numScan_mono _ _ _ _ _ _ _ h
    simp only [numScan] at h
    by_cases hd:isDig (c.toNat:Int)=true
    · rw [if_pos hd] at h
      simp only [beq_self_eq_true,if_true] at h
      have hm2:=numScan_mono _ _ _ _ _ _ _ h
      have hc:=(isDig_iff c).1 hd
      have ha:a≤13:=by omega
      have h10:(10:Nat) ^ a≤10 ^ 13:=Nat.pow_le_pow_right (by omega) ha
      have h13:(10:Nat) ^ 13=10000000000000:=by decide
      unfold Lib.parseUint10
      rw [if_pos hc,if_neg (by omega),if_neg (by omega)]
      refine ih (d + 1) (a + 1) _ D A (by exact_mod_cast h) hA ?_
      rw [Nat.pow_succ];omega
    · rw [if_neg hd] at h
      unfold Lib.parseUint10
      rw [if_neg (fun e=>hd ((isDig_iff c).2 e))]
      rfl
theorem parse_ok:∀ (l:By) (acc u:Nat),Lib.parseUint10 acc l=.ok u→∀ c∈l,isDig (c.toNat:Int)=true:=by
  intro l
  induction l with
  | nil=>intro acc u _ c hc;simp at hc
  | cons e l ih =>
    intro acc u h c hc
    unfold Lib.parseUint10 at h
    split at h
    · rename_i he
      split at h
      · cases h
      · split at h
        · cases h
        · rcases List.mem_cons.1 hc with rfl | hc
          · exact (isDig_iff c).2 he
          · exact ih _ _ h c hc
    · cases h
theorem atoi_strip (c:UInt8) (l:By):numStrip (c::l)=(if c.toNat=43∨c.toNat=45 then l else c::l):=by
  simp only [numStrip]
  by_cases h:c.toNat=43∨c.toNat=45
  · rw [if_pos h,if_pos]
    simp only [beq_iff_eq];omega
  · rw [if_neg h,if_neg]
    simp only [beq_iff_eq];omega
theorem atoi_ok {l:By} {v:Int} (h:Lib.atoiAll l=.ok v):(∀ c∈numStrip l,isDig (c.toNat:Int)=true)∧numStrip l≠[]:=by
  cases l with
  | nil=>simp [Lib.atoiAll] at h
  | cons c l =>
    rw [atoi_strip]
    simp only [Lib.atoiAll] at h
    generalize (if c.toNat=43∨c.toNat=45 then l else c::l)=s at h ⊢
    cases hp:Lib.parseMag s with
    | range=>rw [hp] at h;cases h
    | ok u =>
      unfold Lib.parseMag at hp
      split at hp
      · cases hp
      · rename_i hs
        exact ⟨parse_ok s 0 u hp,hs⟩
    | _=>rw [hp] at h;cases h
theorem numScan_digs:∀ (l:By) (d a:Int),(∀ c∈l,isDig (c.toNat:Int)=true)→numScan l d 0 a=some (d + l.length,0,a + l.length):=by
  intro l
  induction l with
  | nil=>intro d a _;simp [numScan]
  | cons c l ih =>
    intro d a h
    simp only [numScan,h c (by simp),if_true,beq_self_eq_true]
    rw [ih _ _ (fun e he=>h e (by simp [he]))]
    simp;omega
theorem atoi_state {pf:By→Nat} {l:By} {v:Int} (h:Lib.atoiAll l=.ok v):(numF pf l).2.2.2≠1:=by
  obtain ⟨h1,h2⟩:=atoi_ok h
  have hl:=List.length_pos_iff.2 h2
  unfold numF
  rw [numScan_digs _ _ _ h1,h]
  simp only
  repeat' split
  all_goals first
    | (simp;done)
    | (rename_i hh;simp only [beq_iff_eq] at hh;omega)
theorem num_isint {pf:By→Nat} {l:By} (h0:(numF pf l).2.2.2=0) (h2:(numF pf l).1=2):Lib.atoiAll l=.ok (numF pf l).2.1∧-2147483648≤(numF pf l).2.1∧(numF pf l).2.1≤2147483647:=by
  unfold numF at h0 h2 ⊢
  cases hn:numScan (numStrip l) 0 0 0 with
  | none=>rw [hn] at h0;simp at h0
  | some r =>
    obtain ⟨d,p,a⟩:=r
    rw [hn] at h0 h2
    simp only at h0 h2 ⊢
    split
    · rename_i hh;rw [if_pos hh] at h0;simp at h0
    · rename_i hh
      rw [if_neg hh] at h0 h2
      split
      · rename_i hh2;rw [if_pos hh2] at h0;simp at h0
      · rename_i hh2
        rw [if_neg hh2] at h0 h2
        split
        · rename_i hh3;rw [if_pos hh3] at h2;simp at h2
        · rename_i hh3
          rw [if_neg hh3] at h0 h2
          cases ha:Lib.atoiAll l with
          | range=>rw [ha] at h0;simp at h0
          | ok n =>
            rw [ha] at h0
            simp only at h0 ⊢
            split
            · rename_i hh4;rw [if_pos hh4] at h0;simp at h0
            · rename_i hh4
              exact ⟨rfl,by simp only;omega,by simp only;omega⟩
          | _=>rw [ha] at h0;simp at h0
theorem num_kind {pf:By→Nat} {l:By} (h0:(numF pf l).2.2.2=0):(numF pf l).1=2∨(numF pf l).1=3:=by
  unfold numF at h0 ⊢
  cases hn:numScan (numStrip l) 0 0 0 with
  | none=>rw [hn] at h0;simp at h0
  | some r =>
    obtain ⟨d,p,a⟩:=r
    rw [hn] at h0
    simp only at h0 ⊢
    split
    · rename_i hh;rw [if_pos hh] at h0;simp at h0
    · rename_i hh
      rw [if_neg hh] at h0
      split
      · rename_i hh2;rw [if_pos hh2] at h0;simp at h0
      · rename_i hh2
        rw [if_neg hh2] at h0
        split
        · exact .inr rfl
        · rename_i hh3
          rw [if_neg hh3] at h0
          cases ha:Lib.atoiAll l with
          | range=>rw [ha] at h0;simp at h0
          | ok n =>
            rw [ha] at h0
            simp only at h0 ⊢
            split
            · rename_i hh4;rw [if_pos hh4] at h0;simp at h0
            · exact .inl rfl
          | _=>rw [ha] at h0;simp at h0
theorem num_isreal {pf:By→Nat} {l:By} (h0:(numF pf l).2.2.2=0) (h3:(numF pf l).1=3):Lib.atoiAll l=Lib.atoiAll []∧numOk l∧(numF pf l).2.2.1=pf l:=by
  unfold numF at h0 h3 ⊢
  cases hn:numScan (numStrip l) 0 0 0 with
  | none=>rw [hn] at h0;simp at h0
  | some r =>
    obtain ⟨d,p,a⟩:=r
    rw [hn] at h0 h3
    simp only at h0 h3 ⊢
    by_cases hh:(d == 0)=true∨1 < p
    · rw [if_pos hh] at h0;simp at h0
    · rw [if_neg hh] at h0 h3 ⊢
      by_cases hh2:14 < a∨60 < d
      · rw [if_pos hh2] at h0;simp at h0
      · rw [if_neg hh2] at h0 h3 ⊢
        by_cases hh3:(p == 1)=true
        · rw [if_pos hh3]
          simp only [beq_iff_eq] at hh hh3
          subst hh3
          have hm:=numScan_mono _ _ _ _ _ _ _ hn
          refine ⟨?_,⟨d,a,hn,by omega,by omega,by omega⟩,rfl⟩
          cases l with
          | nil=>rfl
          | cons c l =>
            simp only [Lib.atoiAll]
            rw [atoi_strip] at hn
            generalize (if c.toNat=43∨c.toNat=45 then l else c::l)=s at hn ⊢
            have:Lib.parseMag s=Lib.parseMag []:=by
              rw [show Lib.parseMag s=if s=[] then Lib.parseMag [] else Lib.parseUint10 0 s from rfl]
              split
              · rfl
              · exact parse_dot s 0 0 0 d a (by simpa using hn) (by omega) (by decide)
            rw [this];rfl
        · rw [if_neg hh3] at h3
          cases ha:Lib.atoiAll l with
          | range=>rw [ha] at h3;simp at h3
          | ok n =>
            rw [ha] at h3
            simp only at h3
            split at h3<;>simp at h3
          | _=>rw [ha] at h3;simp at h3
theorem num_chars {pf:By→Nat} {l:By} (h:(numF pf l).2.2.2≠1):∀ c∈numStrip l,isDig (c.toNat:Int)=true∨(c.toNat:Int)=46:=by
  unfold numF at h
  cases hn:numScan (numStrip l) 0 0 0 with
  | none=>rw [hn] at h;simp at h
  | some r=>exact numScan_chars _ _ _ _ _ hn
theorem num_head {pf:By→Nat} {c:UInt8} {l:By} (h:(numF pf (c::l)).2.2.2≠1):(c.toNat:Int)=43∨(c.toNat:Int)=45∨(c.toNat:Int)=46∨48≤(c.toNat:Int)∧(c.toNat:Int)≤57:=by
  have h1:=num_chars h
  simp only [numStrip] at h1
  split at h1
  · rename_i hc;simp at hc;omega
  · have:=h1 c (by simp)
    simp [isDig] at this
    omega
theorem atoi_nopct {l:By} {v:Int} (h:Lib.atoiAll l=.ok v):∀ c∈l,(c.toNat:Int)≠37:=by
  intro c hc
  have h1:=(atoi_ok h).1
  cases l with
  | nil=>simp at hc
  | cons d l =>
    simp only [numStrip] at h1
    split at h1
    · rename_i hd
      rcases List.mem_cons.1 hc with rfl | hc
      · simp at hd;omega
      · have:=h1 c hc
        simp [isDig] at this;omega
    · have:=h1 c hc
      simp [isDig] at this;omega
end Go.Proofs.YtfkecmlmnhbmoaaGreatDoor
namespace Go.Proofs.YtfkecmlmnhbmoaaGreatDoor
def bs (l:By):ByteArray:=⟨l.toArray⟩
theorem bs_size (l:By):(bs l).size=l.length:=by simp [bs,ByteArray.size]
theorem bs_list (l:By):(bs l).data.toList=l:=by simp [bs]
theorem bs_of (s:ByteArray):s=bs s.data.toList:=by simp [bs]
theorem bs_extract (l:By) (i j:Nat):(bs l).extract i j=bs ((l.take j).drop i):=by
  apply ByteArray.ext
  show _=_
  simp only [bs,ByteArray.data_extract]
  apply Array.ext'
  simp [List.extract_eq_take_drop,List.drop_take]
theorem bs_drop (l:By) (i:Nat):(bs l).extract i l.length=bs (l.drop i):=by rw [bs_extract,List.take_length]
theorem bs_take (l:By) (j:Nat):(bs l).extract 0 j=bs (l.take j):=by rw [bs_extract,List.drop_zero]
theorem bs_decode (pre:By) (c:UInt8) (l:By) (hc:(c.toNat:Int) < 128):Utf8.decode (bs (pre ++ c::l)) pre.length=(c.toNat,1):=by
  have h:pre.length < (bs (pre ++ c::l)).size:=by rw [bs_size];simp
  have e:(bs (pre ++ c::l))[pre.length]'h=c:=by
    simp [bs,ByteArray.getElem_eq_getElem_data]
  rw [decode_ascii _ _ h (by rw [e];omega),e]
theorem idx_ascii (p:Nat→Bool) (q:UInt8→Bool):∀ (l pre:By) (f:Nat),l.length≤f→(∀ c∈l.takeWhile q,(c.toNat:Int) < 128∧p c.toNat=true)→(∀ c∈(l.dropWhile q).head?,(c.toNat:Int) < 128∧p c.toNat=false) →
    Lib.idxFuncFrom p false (bs (pre ++ l)) f pre.length=if l.dropWhile q=[] then -1 else ((pre.length + (l.takeWhile q).length:Nat):Int):=by
  intro l
  induction l with
  | nil =>
    intro pre f _ _ _
    rw [Lib.idxFuncFrom_end _ _ _ _ _ (by rw [bs_size];simp)]
    simp
  | cons c l ih =>
    intro pre f hf h1 h2
    obtain ⟨f,rfl⟩:∃ f',f=f' + 1:=⟨f - 1,by simp at hf;omega⟩
    have hlt:pre.length < (bs (pre ++ c::l)).size:=by rw [bs_size];simp
    by_cases hq:q c=true
    · have hc:=h1 c (by simp [hq])
      simp only [Lib.idxFuncFrom,if_pos hlt,bs_decode pre c l hc.1,hc.2]
      rw [if_neg (by simp)]
      have:=ih (pre ++ [c]) f (by simp at hf;omega) (fun d hd=>h1 d (by simp [hq,hd])) (by simpa [hq] using h2)
      simp only [List.append_assoc,List.singleton_append,List.length_append,List.length_singleton] at this
      rw [this]
      simp only [List.dropWhile_cons,List.takeWhile_cons,hq,if_true,List.length_cons]
      split
      · rfl
      · congr 1;omega
    · have hc:=h2 c (by simp [hq])
      simp only [Lib.idxFuncFrom,if_pos hlt,bs_decode pre c l hc.1,hc.2,if_true]
      simp [hq]
theorem trimLeft_ascii (p:Nat→Bool) (q:UInt8→Bool) (l:By) (h1:∀ c∈l.takeWhile q,(c.toNat:Int) < 128∧p c.toNat=true) (h2:∀ c∈(l.dropWhile q).head?,(c.toNat:Int) < 128∧p c.toNat=false) :
    Lib.trimLeftF p (bs l)=bs (l.dropWhile q):=by
  have h:=idx_ascii p q l [] l.length (Nat.le_refl _) h1 h2
  simp only [List.nil_append,List.length_nil,Nat.zero_add] at h
  unfold Lib.trimLeftF Lib.idxFunc
  rw [bs_size,h]
  have hs:l.takeWhile q ++ l.dropWhile q=l:=List.takeWhile_append_dropWhile
  by_cases e0:l.dropWhile q=[]
  · rw [if_pos e0,e0];rfl
  · rw [if_neg e0,if_neg (by omega),Int.toNat_natCast,bs_drop]
    have:l.drop (l.takeWhile q).length=l.dropWhile q:=by
      calc l.drop (l.takeWhile q).length=(l.takeWhile q ++ l.dropWhile q).drop (l.takeWhile q).length:=by rw [hs]
        _=l.dropWhile q:=List.drop_left
    rw [this]
end Go.Proofs.YtfkecmlmnhbmoaaGreatDoor
namespace Go.Proofs.YtfkecmlmnhbmoaaGreatDoor
theorem last_ascii (t:By) (b:UInt8) (h:(b.toNat:Int) < 128):Lib.decodeLastL (t ++ [b])=(b.toNat,1):=by
  have hg:(t ++ [b]).getD ((t ++ [b]).length - 1) 0=b:=by simp [List.getD]
  unfold Lib.decodeLastL
  rw [if_neg (by simp),hg,if_pos (by omega)]
theorem lastIdx_ascii (p:Nat→Bool) (a:By) (ha:∀ c∈a.getLast?,(c.toNat:Int) < 128∧p c.toNat=false):∀ (n:Nat) (b rest:By) (f:Nat),b.length=n→a.length + n≤f→(∀ c∈b,(c.toNat:Int) < 128∧p c.toNat=true) →
    Lib.lastIdxFuncFrom p false (bs (a ++ b ++ rest)) f (a.length + b.length)=(a.length:Int) - 1:=by
  intro n
  induction n with
  | zero =>
    intro b rest f hb hf _
    obtain rfl:b=[]:=List.eq_nil_of_length_eq_zero hb
    cases hA:a.getLast? with
    | none =>
      have:a=[]:=by simpa using hA
      subst this
      simp [Lib.lastIdxFuncFrom_zero]
    | some c =>
      obtain ⟨a',rfl⟩:=List.getLast?_eq_some_iff.1 hA
      have hc:=ha c (by rw [hA];rfl)
      simp only [List.length_append,List.length_singleton,Nat.add_zero] at hf
      obtain ⟨f,rfl⟩:∃ f',f=f' + 1:=⟨f - 1,by omega⟩
      have ht:(bs (a' ++ [c] ++ [] ++ rest)).data.toList.take (a' ++ [c]).length=a' ++ [c]:=by
        rw [bs_list,List.append_nil,List.take_left]
      simp only [Lib.lastIdxFuncFrom,List.length_nil,Nat.add_zero,ht,last_ascii a' c hc.1,hc.2,if_true]
      rw [if_pos (by simp)]
      simp
  | succ n ih =>
    intro b rest f hb hf hbc
    have hne:b≠[]:=by intro e;subst e;simp at hb
    obtain ⟨b',c,rfl⟩:∃ b' c,b=b' ++ [c]:=⟨b.dropLast,b.getLast hne,(List.dropLast_concat_getLast hne).symm⟩
    have hc:=hbc c (by simp)
    have hb':b'.length=n:=by simp at hb;omega
    obtain ⟨f,rfl⟩:∃ f',f=f' + 1:=⟨f - 1,by omega⟩
    have ht:(bs (a ++ (b' ++ [c]) ++ rest)).data.toList.take (a.length + (b' ++ [c]).length)=(a ++ b') ++ [c]:=by
      rw [bs_list,show a.length + (b' ++ [c]).length=(a ++ (b' ++ [c])).length by simp,List.take_left]
      simp
    simp only [Lib.lastIdxFuncFrom,ht,last_ascii (a ++ b') c hc.1,hc.2]
    rw [if_pos (by simp;omega),if_neg (by simp)]
    have:=ih b' ([c] ++ rest) f hb' (by omega) (fun d hd=>hbc d (by simp [hd]))
    rw [show a ++ (b' ++ [c]) ++ rest=a ++ b' ++ ([c] ++ rest) by simp,show a.length + (b' ++ [c]).length - 1=a.length + b'.length by simp]
    exact this
theorem trimRight_ascii (p:Nat→Bool) (a b:By) (ha:∀ c∈a.getLast?,(c.toNat:Int) < 128∧p c.toNat=false) (hb:∀ c∈b,(c.toNat:Int) < 128∧p c.toNat=true):Lib.trimRightF p (bs (a ++ b))=bs a:=by
  have h:=lastIdx_ascii p a ha b.length b [] (bs (a ++ b)).size rfl (by rw [bs_size];simp) hb
  rw [List.append_nil,show a.length + b.length=(bs (a ++ b)).size by rw [bs_size];simp] at h
  unfold Lib.trimRightF Lib.rightEndF Lib.lastIdxFunc
  rw [h]
  cases hA:a.getLast? with
  | none =>
    have:a=[]:=by simpa using hA
    subst this
    rw [if_neg (by simp),bs_take];rfl
  | some c =>
    obtain ⟨a',rfl⟩:=List.getLast?_eq_some_iff.1 hA
    have hc:=ha c (by rw [hA];rfl)
    rw [if_pos (by simp)]
    have e1:(((a' ++ [c]).length:Int) - 1).toNat=a'.length:=by simp
    rw [e1]
    have e2:(bs (a' ++ [c] ++ b)).extract a'.length (bs (a' ++ [c] ++ b)).size=bs (c::b):=by
      rw [bs_size,bs_drop,List.append_assoc,List.drop_left];rfl
    have e3:Lib.decodeGoB (bs (c::b))=(c.toNat,1):=by
      unfold Lib.decodeGoB
      rw [if_neg (by rw [bs_size];simp)]
      exact bs_decode [] c b hc.1
    rw [e2,e3,bs_take]
    congr 1
    rw [show a'.length + 1=(a' ++ [c]).length by simp,List.take_left]
end Go.Proofs.YtfkecmlmnhbmoaaGreatDoor
