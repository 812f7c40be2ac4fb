/- Part 8: Pl5, Pl6. -/
import Derived.Test.YtbcngfgemjdllaaGreatDoorB07
set_option linter.unusedVariables false
set_option linter.unusedSimpArgs false
section
namespace Lx
section
variable {h:Cf→Int} {hs:List Cf→Int} {out:Nat→List Tr} {n:Nat} {stop:Nat→Bool} {kindOf:Nat→Int} {rules:List Ex} {t:List Nat}
theorem addS_ext (D:DS) (S:CS):Ext D (D.addS hs S).1:=by
  unfold DS.addS
  cases D.find hs S.cf with
  | some k=>exact ⟨⟨[],by simp⟩,⟨_,rfl⟩⟩
  | none=>exact ⟨⟨_,rfl⟩,⟨_,rfl⟩⟩
theorem stepD_ext (D:DS) (k c:Nat):Ext D (D.stepD h hs out n k c).1:=by
  unfold DS.stepD
  cases D.edges k c with
  | some r=>exact .refl D
  | none =>
    simp only
    split
    · exact ⟨⟨[],by simp [DS.setE]⟩,⟨[],by simp [DS.setE]⟩⟩
    · exact ⟨(addS_ext D _).sts,(addS_ext D _).asked⟩
theorem startD_ext (D:DS):Ext D (D.startD h hs out n).1:=by
  unfold DS.startD
  cases D.s0 with
  | some k=>exact .refl D
  | none=>exact ⟨(addS_ext D _).sts,(addS_ext D _).asked⟩
theorem runF_ext (cs:List Nat):∀ (D:DS) (k pos ln col:Nat) (acc:Option AccR),Ext D (runF h hs out n stop cs D k pos ln col acc).1:=by
  induction cs with
  | nil=>intro D k pos ln col acc; exact .refl D
  | cons c cs ih =>
    intro D k pos ln col acc
    simp only [runF]
    cases (D.stepD h hs out n k c).2 with
    | none=>exact stepD_ext D k c
    | some k'=>exact (stepD_ext D k c).trans (ih _ _ _ _ _ _)
theorem match1_ext (D:DS) (cs:List Nat) (pos ln col:Nat):Ext D (match1 h hs out n stop kindOf D cs pos ln col).1:=(startD_ext D).trans (runF_ext _ _ _ _ _ _ _)
def plc (t:List Nat) (i:Nat):Nat × Nat:=(t.take i).foldl (fun p c=>moved p.1 p.2 c) (1,0)
theorem plc_succ {i c:Nat} (hc:t[i]? = some c):plc t (i+1)=moved (plc t i).1 (plc t i).2 c:=by
  obtain ⟨hi,e⟩:=List.getElem?_eq_some_iff.1 hc
  unfold plc
  rw [List.take_succ_eq_append_getElem hi,List.foldl_append,e]; rfl
theorem many_le {r:Nat→Nat→Prop} (hr:∀ i j,r i j→i≤j∧(i=j∨j≤t.length)) {i j:Nat} (m:Many r i j):i≤j∧(i=j∨j≤t.length):=by
  induction m with
  | nil=>exact ⟨Nat.le_refl _,.inl rfl⟩
  | cons h1 _ ih=>have:=hr _ _ h1; omega
theorem R_row_le:∀ ss:List Ex,(∀ s ∈ ss,∀ i j,R t s i j→i≤j∧(i=j∨j≤t.length))→∀ i j,RRow t ss i j→i≤j∧(i=j∨j≤t.length)
  | [],_,i,j,hr=>by simp only [RRow] at hr; omega
  | s::ss,hs,i,j,hr=>by
    simp only [RRow] at hr
    obtain ⟨k,h1,h2⟩:=hr
    have a:=hs s (by simp) i k h1
    have b:=R_row_le ss (fun s h=>hs s (by simp [h])) k j h2
    omega
theorem R_alt_le:∀ ss:List Ex,(∀ s ∈ ss,∀ i j,R t s i j→i≤j∧(i=j∨j≤t.length))→∀ i j,RAlt t ss i j→i≤j∧(i=j∨j≤t.length)
  | [],_,i,j,hr=>by simp [RAlt] at hr
  | s::ss,hs,i,j,hr=>by
    simp only [RAlt] at hr
    rcases hr with hr | hr
    · exact hs s (by simp) i j hr
    · exact R_alt_le ss (fun s h=>hs s (by simp [h])) i j hr
theorem R_le:∀ (e:Ex) (i j:Nat),R t e i j→i≤j∧(i=j∨j≤t.length):=by
  intro e
  induction e using Ex.ind with
  | h op a b ss ih =>
    intro i j hr
    simp only [R] at hr
    split at hr
    · obtain ⟨rfl,c,hc,_⟩:=hr
      have:=(List.getElem?_eq_some_iff.1 hc).1
      omega
    split at hr
    · exact R_row_le ss ih i j hr
    split at hr
    · exact R_alt_le ss ih i j hr
    split at hr
    · rcases hr with rfl | hr
      · omega
      · exact R_alt_le ss ih i j hr
    split at hr
    · exact many_le (R_alt_le ss ih) hr
    · obtain ⟨k,h1,h2⟩:=hr
      have a:=R_alt_le ss ih i k h1
      have b:=many_le (R_alt_le ss ih) h2
      omega
structure Fit (out:Nat→List Tr) (n:Nat) (stop:Nat→Bool) (kindOf:Nat→Int) (rules:List Ex):Prop where
  plain:Plain out
  zero:∀ tr ∈ out 0,tr=.eps tr.to∧Dep out n tr.to
  dep:∀ s a b q,Tr.sym a b q ∈ out s→Dep out n q
  rul:Rul out stop kindOf rules
def AccOk (out:Nat→List Tr) (stop:Nat→Bool) (rules:List Ex) (t:List Nat) (D:DS) (i0:Nat) (acc:Option AccR) (P:Nat→Prop):Prop :=
  match acc with
  | none=>∀ r j,P j → ¬ Mt rules t r i0 j
  | some a=>P a.pos∧a.st<D.sts.length∧At out t i0 a.pos (D.cfs a.st)∧(accd stop (D.cfs a.st)).isSome=true∧(∀ r j,a.pos<j→P j → ¬ Mt rules t r i0 j)∧(a.ln,a.col)=plc t a.pos
theorem AccOk.ext {D D':DS} {i0:Nat} {acc:Option AccR} {P:Nat→Prop} (ha:AccOk out stop rules t D i0 acc P) (hx:Ext D D'):AccOk out stop rules t D' i0 acc P:=by
  cases acc with
  | none=>exact ha
  | some a =>
    obtain ⟨h1,h2,h3,h4,h5,h6⟩:=ha
    exact ⟨h1,hx.lt h2,by rw [hx.cfs h2]; exact h3,by rw [hx.cfs h2]; exact h4,h5,h6⟩
theorem AccOk.more {D:DS} {i0:Nat} {acc:Option AccR} {P Q:Nat→Prop} (ha:AccOk out stop rules t D i0 acc P) (hpq:∀ j,P j→Q j) (hn:∀ r j,Q j → ¬ P j → ¬ Mt rules t r i0 j):AccOk out stop rules t D i0 acc Q:=by
  cases acc with
  | none =>
    intro r j hq
    by_cases hp:P j
    · exact ha r j hp
    · exact hn r j hq hp
  | some a =>
    obtain ⟨h1,h2,h3,h4,h5,h6⟩:=ha
    refine ⟨hpq _ h1,h2,h3,h4,?_,h6⟩
    intro r j hj hq
    by_cases hp:P j
    · exact h5 r j hj hp
    · exact hn r j hq hp
theorem AccOk.here (hf:Fit out n stop kindOf rules) {D:DS} {i0 i k ln col:Nat} {acc:Option AccR} (hk:k<D.sts.length) (hat:At out t i0 i (D.cfs k)) (hlc:(ln,col)=plc t i)
    (ha:AccOk out stop rules t D i0 acc (fun j=>j<i)):AccOk out stop rules t D i0 (if (accd stop (D.cfs k)).isSome then some ⟨i,ln,col,k⟩ else acc) (fun j=>j≤i):=by
  cases hx:(accd stop (D.cfs k)).isSome with
  | true =>
    simp only [if_true]
    exact ⟨Nat.le_refl _,hk,hat,hx,fun r j h1 h2=>by simp only at h1; omega,hlc⟩
  | false =>
    simp only [Bool.false_eq_true,if_false]
    refine ha.more (fun j hj=>Nat.le_of_lt hj) fun r j h1 h2 => ?_
    obtain rfl:j=i:=by omega
    exact (hf.rul.accd hat).1 (by simpa using hx) r
theorem none_behind (hf:Fit out n stop kindOf rules) {i0 i:Nat} (hi:i0≤i) (hat:At out t i0 (i+1) []) (r j:Nat) (hj:i<j) : ¬ Mt rules t r i0 j:=by
  intro hm
  by_cases e:j=i+1
  · subst e
    obtain ⟨s,_,hin⟩:=hf.rul.mem' hat hm
    cases hin
  · obtain ⟨ex,he,hR⟩:=hm
    obtain ⟨st,fr,en,sp,h1,h2,h3,h4,h5,h6,h7⟩:=hf.rul.start r ex he
    obtain ⟨m,p⟩:=(hf.rul.reach h1 h6).2 ⟨ex,he,hR,h7,fr,en,h2,h3,h4⟩
    obtain ⟨s,a,b,q,c,m',hp,hsym,_⟩:=p.cross (i+1) (by simp; omega) (by simp; omega)
    have:=(hat.mem s (r+1)).2 ⟨kept_of_sym hsym,st,r,rfl,h1,hp⟩
    cases this
theorem runF_ok (hf:Fit out n stop kindOf rules) (i0:Nat) (cs:List Nat):∀ (D:DS) (k pos ln col:Nat) (acc:Option AccR),cs=t.drop pos→pos≤t.length→i0≤pos→Inv out n D→k<D.sts.length→At out t i0 pos (D.cfs k) →
    (ln,col)=plc t pos→AccOk out stop rules t D i0 acc (fun j=>j≤pos)→AP h hs (runF h hs out n stop cs D k pos ln col acc).1.asked →
    Inv out n (runF h hs out n stop cs D k pos ln col acc).1∧AccOk out stop rules t (runF h hs out n stop cs D k pos ln col acc).1 i0 (runF h hs out n stop cs D k pos ln col acc).2.1 (fun _=>True) ∧
      (((runF h hs out n stop cs D k pos ln col acc).2.2.2=true∧(runF h hs out n stop cs D k pos ln col acc).2.2.1=pos) ↔ pos=t.length):=by
  induction cs with
  | nil =>
    intro D k pos ln col acc hcs hpos hi0 hi hk hat hlc hacc hap
    have hlen:pos=t.length:=by
      have:=congrArg List.length hcs
      simp at this; omega
    simp only [runF] at hap ⊢
    refine ⟨hi,hacc.more (fun _ _=>trivial) ?_,by simp [hlen]⟩
    rintro r j _ hj ⟨e,he,hR⟩
    have:=R_le e _ _ hR
    omega
  | cons c cs ih =>
    intro D k pos ln col acc hcs hpos hi0 hi hk hat hlc hacc hap
    have hlt:pos<t.length:=by
      have:=congrArg List.length hcs
      simp at this; omega
    have hc:t[pos]? = some c:=by
      have:=congrArg (fun l:List Nat=>l[0]?) hcs
      simp at this; rw [← this]
    have hcs':cs=t.drop (pos+1):=by
      have:=congrArg List.tail hcs
      simpa using this
    simp only [runF] at hap ⊢
    cases hst:(D.stepD h hs out n k c).2 with
    | none =>
      simp only [hst] at hap ⊢
      obtain ⟨h1,h2,h3,_⟩:=stepD_ok hi hk hap
      have hat':=at_step hf.plain hf.dep hat hi0 hc
      rw [h3 hst] at hat'
      refine ⟨h1,(hacc.ext h2).more (fun _ _=>trivial) (fun r j _ hj=>none_behind hf hi0 hat' r j (by omega)),?_⟩
      simp; omega
    | some k' =>
      simp only [hst] at hap ⊢
      obtain ⟨h1,h2,_,h4⟩:=stepD_ok hi hk ((runF_ext cs _ _ _ _ _ _).ap hap)
      obtain ⟨h5,h6⟩:=h4 k' hst
      have hat':=at_step hf.plain hf.dep hat hi0 hc
      rw [← h6] at hat'
      have hlc':((moved ln col c).1,(moved ln col c).2)=plc t (pos+1):=by
        rw [plc_succ hc,← hlc]
      have hacc':=AccOk.here hf h5 hat' hlc' ((hacc.ext h2).more (Q:=fun j=>j<pos+1) (fun j hj=>by omega) (fun r j h1 h2=>by omega))
      obtain ⟨g1,g2,g3⟩:=ih (D.stepD h hs out n k c).1 k' (pos+1) _ _ _ hcs' (by omega) (by omega) h1 h5 hat' hlc' hacc' hap
      refine ⟨g1,g2,?_⟩
      constructor
      · rintro ⟨_,e⟩
        exfalso
        have hge:∀ (cs:List Nat) (D:DS) (k p ln col:Nat) (acc:Option AccR),p≤(runF h hs out n stop cs D k p ln col acc).2.2.1:=by
          intro cs
          induction cs with
          | nil=>intro D k p ln col acc; exact Nat.le_refl _
          | cons c cs ih =>
            intro D k p ln col acc
            simp only [runF]
            cases (D.stepD h hs out n k c).2 with
            | none=>exact Nat.le_refl _
            | some k'=>exact Nat.le_trans (Nat.le_succ _) (ih _ _ _ _ _ _)
        have:=hge cs (D.stepD h hs out n k c).1 k' (pos+1) (moved ln col c).1 (moved ln col c).2
          (if (accd stop ((D.stepD h hs out n k c).1.cfs k')).isSome then some ⟨pos+1,(moved ln col c).1,(moved ln col c).2,k'⟩ else acc)
        omega
      · intro e; omega
def Lgst (rules:List Ex) (t:List Nat) (i r j:Nat):Prop:=Mt rules t r i j∧(∀ r' j',Mt rules t r' i j'→j'≤j)∧∀ r',Mt rules t r' i j→r≤r'
theorem match1_ok (hf:Fit out n stop kindOf rules) (hne:∀ r i j,Mt rules t r i j→i<j) {D:DS} {pos ln col:Nat} (hpos:pos≤t.length) (hi:Inv out n D) (hlc:(ln,col)=plc t pos)
    (hap:AP h hs (match1 h hs out n stop kindOf D (t.drop pos) pos ln col).1.asked) :
    Inv out n (match1 h hs out n stop kindOf D (t.drop pos) pos ln col).1 ∧
    match (match1 h hs out n stop kindOf D (t.drop pos) pos ln col).2 with
    | .tok tk=>tk.start=pos∧pos<tk.stop∧tk.stop≤t.length∧(tk.ln,tk.col)=plc t tk.stop∧∃ r:Nat,tk.kind=r+1∧Lgst rules t pos r tk.stop
    | .eof=>pos=t.length
    | .fail=>pos<t.length∧∀ r j,¬ Mt rules t r pos j:=by
  unfold match1 at hap ⊢
  simp only at hap ⊢
  obtain ⟨h1,h2,h3,h4⟩:=startD_ok hi ((runF_ext _ _ _ _ _ _ _).ap hap)
  have hat:=at_start (t:=t) hf.plain hf.zero pos
  rw [← h4] at hat
  have hacc:=AccOk.here hf h3 hat hlc (acc:=none) (fun r j hj hm=>by have:=hne r pos j hm; omega)
  obtain ⟨g1,g2,g3⟩:=runF_ok hf pos (t.drop pos) _ _ pos ln col _ rfl hpos (Nat.le_refl _) h1 h3 hat hlc hacc hap
  refine ⟨g1,?_⟩
  generalize runF h hs out n stop (t.drop pos) (D.startD h hs out n).1 (D.startD h hs out n).2 pos ln col _=r at g1 g2 g3
  obtain ⟨D',acc,pos',b⟩:=r
  simp only at g2 g3 ⊢
  cases acc with
  | some a =>
    simp only
    obtain ⟨_,k2,k3,k4,k5,k6⟩:=g2
    obtain ⟨x,hx⟩:=Option.isSome_iff_exists.1 k4
    obtain ⟨r,hk,hm,hmin⟩:=(hf.rul.accd k3).2 x hx
    have hlt:=hne r pos a.pos hm
    have hle:a.pos≤t.length:=by
      obtain ⟨e,_,hR⟩:=hm
      have:=R_le e _ _ hR
      omega
    refine ⟨trivial,hlt,hle,k6,r,by rw [hx]; exact hk,hm,fun r' j' hm' => ?_,hmin⟩
    rcases Nat.lt_or_ge a.pos j' with hh | hh
    · exact (k5 r' j' hh trivial hm').elim
    · exact hh
  | none =>
    simp only
    by_cases e:pos=t.length
    · obtain ⟨e1,e2⟩:=g3.2 e
      simp [e1,e2,e]
    · have:(b && pos' == pos)=false:=by
        cases hb:b && pos' == pos with
        | false=>rfl
        | true =>
          simp only [Bool.and_eq_true,beq_iff_eq] at hb
          exact (e (g3.1 hb)).elim
      rw [this]
      exact ⟨by omega,fun r j=>g2 r j trivial⟩
def lexF (h:Cf→Int) (hs:List Cf→Int) (out:Nat→List Tr) (n:Nat) (stop:Nat→Bool) (kindOf:Nat→Int) (t:List Nat):Nat→DS→Nat→Nat→Nat→List Tok × Int × DS
  | 0,D,_,_,_=>([],-1,D)
  | f + 1, D, pos, ln, col =>
    match match1 h hs out n stop kindOf D (t.drop pos) pos ln col with
    | (D',.tok tk) =>
      if tk.stop=pos then ([tk],-1,D')
      else (tk::(lexF h hs out n stop kindOf t f D' tk.stop tk.ln tk.col).1,(lexF h hs out n stop kindOf t f D' tk.stop tk.ln tk.col).2)
    | (D',.eof)=>([⟨-1,pos,pos,ln,col⟩],-1,D')
    | (D',.fail)=>([],pos,D')
inductive AllR (rules:List Ex) (t:List Nat):Nat→List Tok→Int→Prop
  | done {i:Nat} : i=t.length→AllR rules t i [] (-1)
  | fail {i:Nat} : i<t.length→(∀ r j,¬ Mt rules t r i j)→AllR rules t i [] i
  | step {i r:Nat} {tk:Tok} {l:List Tok} {f:Int} : i<t.length→tk.start=i→tk.kind=r+1→i<tk.stop→tk.stop≤t.length→(tk.ln,tk.col)=plc t tk.stop→Lgst rules t i r tk.stop→AllR rules t tk.stop l f→AllR rules t i (tk::l) f
def noEnd (l:List Tok):List Tok:=l.filter fun tk=>tk.kind != -1
theorem lexF_ext (f:Nat):∀ (D:DS) (pos ln col:Nat),Ext D (lexF h hs out n stop kindOf t f D pos ln col).2.2:=by
  induction f with
  | zero=>intro D pos ln col; exact .refl D
  | succ f ih =>
    intro D pos ln col
    simp only [lexF]
    have hx:=match1_ext (h:=h) (hs:=hs) (out:=out) (n:=n) (stop:=stop) (kindOf:=kindOf) D (t.drop pos) pos ln col
    generalize match1 h hs out n stop kindOf D (t.drop pos) pos ln col=r at hx
    obtain ⟨D',res⟩:=r
    cases res with
    | tok tk =>
      simp only
      split
      · exact hx
      · exact hx.trans (ih _ _ _ _)
    | eof=>exact hx
    | fail=>exact hx
theorem lexF_ok (hf:Fit out n stop kindOf rules) (hne:∀ r i j,Mt rules t r i j→i<j) (f:Nat):∀ (D:DS) (pos ln col:Nat),pos≤t.length→t.length - pos<f→Inv out n D→(ln,col)=plc t pos →
    AP h hs (lexF h hs out n stop kindOf t f D pos ln col).2.2.asked→AllR rules t pos (noEnd (lexF h hs out n stop kindOf t f D pos ln col).1) (lexF h hs out n stop kindOf t f D pos ln col).2.1:=by
  induction f with
  | zero=>intro D pos ln col _ hlt; omega
  | succ f ih =>
    intro D pos ln col hpos hlt hi hlc hap
    simp only [lexF] at hap ⊢
    have hm:=fun hap=>match1_ok (h:=h) (hs:=hs) (D:=D) (ln:=ln) (col:=col) hf hne hpos hi hlc hap
    generalize match1 h hs out n stop kindOf D (t.drop pos) pos ln col=r at hm hap
    obtain ⟨D',res⟩:=r
    cases res with
    | tok tk =>
      simp only at hm hap ⊢
      by_cases e:tk.stop=pos
      · rw [if_pos e] at hap
        obtain ⟨_,_,h2,_⟩:=hm hap
        omega
      · rw [if_neg e] at hap ⊢
        obtain ⟨h0,h1,h2,h3,h4,r,h5,h6⟩:=hm ((lexF_ext f _ _ _ _).ap hap)
        have hk:(tk.kind != -1)=true:=by rw [h5]; simp; omega
        simp only [noEnd,List.filter_cons,hk,if_true]
        exact .step (by omega) h1 h5 h2 h3 h4 h6 (ih D' tk.stop tk.ln tk.col h3 (by omega) h0 h4 hap)
    | eof =>
      simp only at hm hap ⊢
      exact .done (hm hap).2
    | fail =>
      simp only at hm hap ⊢
      exact .fail (hm hap).2.1 (hm hap).2.2
theorem Lgst.unique {i r j r' j':Nat} (h1:Lgst rules t i r j) (h2:Lgst rules t i r' j'):r=r'∧j=j':=by
  have a:=h1.2.1 _ _ h2.1
  have b:=h2.2.1 _ _ h1.1
  obtain rfl:j=j':=by omega
  have c:=h1.2.2 _ h2.1
  have d:=h2.2.2 _ h1.1
  exact ⟨by omega,rfl⟩
theorem AllR.unique {i:Nat} {l l':List Tok} {f f':Int} (h1:AllR rules t i l f) (h2:AllR rules t i l' f'):l=l'∧f=f':=by
  induction h1 generalizing l' f' with
  | done h =>
    cases h2 with
    | done=>exact ⟨rfl,rfl⟩
    | fail=>omega
    | step=>omega
  | fail h hn =>
    cases h2 with
    | done=>omega
    | fail=>exact ⟨rfl,rfl⟩
    | step _ _ _ _ _ _ hl=>exact (hn _ _ hl.1).elim
  | @step i r tk l f h hs hk h3 h4 hp hl _ ih =>
    cases h2 with
    | done=>omega
    | fail _ hn=>exact (hn _ _ hl.1).elim
    | @step _ r' tk' l' _ h' hs' hk' h3' h4' hp' hl' h2 =>
      obtain ⟨rfl,hj⟩:=hl.unique hl'
      rw [← hj] at h2
      obtain ⟨rfl,rfl⟩:=ih h2
      refine ⟨?_,rfl⟩
      rw [← hj,← hp] at hp'
      simp only [Prod.mk.injEq] at hp'
      cases tk; cases tk'
      simp_all
end
end Lx
end
section
namespace Lx
theorem Dep.mono {out:Nat→List Tr} : ∀ {n m s:Nat},n≤m→Dep out n s→Dep out m s
  | 0,_,_,_,h=>h.elim
  | n+1,0,_,hle,_=>by omega
  | n+1,m+1,s,hle,h=>fun he tr htr=>Dep.mono (Nat.le_of_succ_le_succ hle) (h he tr htr)
def Fin' (out:Nat→List Tr) (s:Nat):Prop:=∃ m,Dep out m s
section
variable {out:Nat→List Tr}
theorem fin_of {s:Nat} (h:∀ tr ∈ out s,epsOnly (out s)=true→Fin' out tr.to):Fin' out s:=by
  have key:∀ l:List Tr,(∀ tr ∈ l,Fin' out tr.to)→∃ m,∀ tr ∈ l,Dep out m tr.to:=by
    intro l
    induction l with
    | nil=>intro _; exact ⟨0,by simp⟩
    | cons x l ih =>
      intro h
      obtain ⟨m,hm⟩:=ih fun tr htr=>h tr (by simp [htr])
      obtain ⟨k,hk⟩:=h x (by simp)
      refine ⟨max m k,fun tr htr => ?_⟩
      rcases List.mem_cons.1 htr with rfl | htr
      · exact hk.mono (by omega)
      · exact (hm tr htr).mono (by omega)
  by_cases he:epsOnly (out s)=true
  · obtain ⟨m,hm⟩:=key (out s) fun tr htr=>h tr htr he
    exact ⟨m+1,fun _ tr htr=>hm tr htr⟩
  · exact ⟨1,fun he'=>(he he').elim⟩
theorem fin_one {s q:Nat} (h:out s=[.eps q]) (hq:Fin' out q):Fin' out s:=fin_of fun tr htr _=>by
  rw [h] at htr; simp at htr; subst htr; exact hq
theorem fin_list {s:Nat} {l:List Tr} (h:out s=l) (hl:∀ tr ∈ l,Fin' out tr.to):Fin' out s:=fin_of fun tr htr _=>hl tr (h ▸ htr)
def Laid (out:Nat→List Tr) (L:List Ed) (lo hi x:Nat):Prop:=∀ s,lo≤s→s<hi→s≠x→out s=outL L s
def FinE (e:Ex):Prop:=∀ (out:Nat→List Tr) (lo:Nat),Laid out (edg e lo) lo (lo+nst e) (lstS e lo) →
  (Fin' out (lstS e lo)→∀ s,lo≤s→s<lo+nst e→Fin' out s)∧(empty e=false→Fin' out (fstS e lo))
theorem fin_row:∀ (ss:List Ex),(∀ s ∈ ss,FinE s)→∀ (out:Nat→List Tr) (lo p:Nat),p<lo→out p=outL (edgRow ss lo p) p→(∀ s,lo≤s→s<lo+nsts ss→out s=outL (edgRow ss lo p) s) →
    (Fin' out (lo+nsts ss)→Fin' out p∧∀ s,lo≤s→s<lo+nsts ss→Fin' out s)∧(allEmpty ss=false→Fin' out p)
  | [],_,out,lo,p,hp,h0,_=>by
    refine ⟨fun h=>⟨?_,fun s h1 h2 => ?_⟩,fun h=>by simp [allEmpty] at h⟩
    · refine fin_one (q:=lo) ?_ (by simpa [nsts] using h)
      rw [h0]; simp [edgRow,outL_ep,outL_nil]
    · simp [nsts] at h2; omega
  | s :: ss, hs, out, lo, p, hp, h0, h => by
    have hf:=fst_lt s lo
    have hl:=lst_lt s lo
    simp only [nsts] at h ⊢
    have e0:out p=[.eps (fstS s lo)]:=by
      rw [h0]
      simp only [edgRow,outL_append,outL_ep,if_true]
      rw [edg_off (by omega),edgRow_off (by omega) (by omega)]; rfl
    have hlaid:Laid out (edg s lo) lo (lo+nst s) (lstS s lo):=fun x h1 h2 h3=>by
      rw [h x h1 (by omega)]
      simp only [edgRow,outL_append,outL_ep]
      rw [if_neg (by omega),edgRow_off (by omega) (by omega),List.append_nil]
    obtain ⟨a1,a2⟩:=hs s (by simp) out lo hlaid
    obtain ⟨b1,b2⟩:=fin_row ss (fun s h=>hs s (by simp [h])) out (lo+nst s) (lstS s lo) (by omega) (by
      rw [h (lstS s lo) (by omega) (by omega)]
      simp only [edgRow,outL_append,outL_ep]
      rw [if_neg (by omega),edg_off (by omega),List.nil_append]) (fun x h1 h2=>by
      rw [h x (by omega) (by omega)]
      simp only [edgRow,outL_append,outL_ep]
      rw [if_neg (by omega),edg_off (by omega),List.nil_append])
    refine ⟨fun hfin => ?_,fun he => ?_⟩
    · obtain ⟨c1,c2⟩:=b1 (by rwa [Nat.add_assoc])
      have c3:=a1 c1
      refine ⟨fin_one e0 (c3 _ (by omega) (by omega)),fun x h1 h2 => ?_⟩
      by_cases hx:x<lo+nst s
      · exact c3 x h1 hx
      · exact c2 x (by omega) (by omega)
    · refine fin_one e0 ?_
      cases hes:empty s with
      | false=>exact a2 hes
      | true =>
        simp only [allEmpty,hes,Bool.true_and] at he
        exact a1 (b2 he) _ (by omega) (by omega)
theorem fin_alt:∀ (ss:List Ex),(∀ s ∈ ss,FinE s)→∀ (out:Nat→List Tr) (lo st sp:Nat),st<lo→sp<lo→(∀ s,lo≤s→s<lo+nsts ss→out s=outL (edgAlt ss lo st sp) s) →
    (Fin' out sp→(∀ tr ∈ outL (edgAlt ss lo st sp) st,Fin' out tr.to)∧∀ s,lo≤s→s<lo+nsts ss→Fin' out s)∧(anyEmpty ss=false→∀ tr ∈ outL (edgAlt ss lo st sp) st,Fin' out tr.to)
  | [],_,out,lo,st,sp,h1,h2,_=>by
    refine ⟨fun h=>⟨by simp [edgAlt,outL_nil],fun s h1 h2 => ?_⟩,fun _=>by simp [edgAlt,outL_nil]⟩
    simp [nsts] at h2; omega
  | s :: ss, hs, out, lo, st, sp, h1, h2, h => by
    have hf:=fst_lt s lo
    have hl:=lst_lt s lo
    simp only [nsts] at h ⊢
    have e0:outL (edgAlt (s::ss) lo st sp) st=.eps (fstS s lo)::outL (edgAlt ss (lo+nst s) st sp) st:=by
      simp only [edgAlt,outL_append,outL_ep,if_true]
      rw [edg_off (by omega),if_neg (by omega)]; rfl
    have e1:out (lstS s lo)=[.eps sp]:=by
      rw [h (lstS s lo) (by omega) (by omega)]
      simp only [edgAlt,outL_append,outL_ep,if_true]
      rw [if_neg (by omega),edg_off (by omega),edgAlt_off (by omega) (by omega) (by omega)]; rfl
    have hlaid:Laid out (edg s lo) lo (lo+nst s) (lstS s lo):=fun x h3 h4 h5=>by
      rw [h x h3 (by omega)]
      simp only [edgAlt,outL_append,outL_ep]
      rw [if_neg (by omega),if_neg (by omega),edgAlt_off (by omega) (by omega) (by omega),List.append_nil]
    obtain ⟨a1,a2⟩:=hs s (by simp) out lo hlaid
    obtain ⟨b1,b2⟩:=fin_alt ss (fun s h=>hs s (by simp [h])) out (lo+nst s) st sp (by omega) (by omega) (fun x h3 h4=>by
      rw [h x (by omega) (by omega)]
      simp only [edgAlt,outL_append,outL_ep]
      rw [if_neg (by omega),if_neg (by omega),edg_off (by omega),List.nil_append])
    rw [e0]
    refine ⟨fun hfin => ?_,fun he => ?_⟩
    · obtain ⟨c1,c2⟩:=b1 hfin
      have c3:=a1 (fin_one e1 hfin)
      refine ⟨fun tr htr => ?_,fun x h3 h4 => ?_⟩
      · rcases List.mem_cons.1 htr with rfl | htr
        · exact c3 _ (by simp only [Tr.to]; omega) (by simp only [Tr.to]; omega)
        · exact c1 tr htr
      · by_cases hx:x<lo+nst s
        · exact c3 x h3 hx
        · exact c2 x (by omega) (by omega)
    · simp only [anyEmpty,Bool.or_eq_false_iff] at he
      intro tr htr
      rcases List.mem_cons.1 htr with rfl | htr
      · exact a2 he.1
      · exact b2 he.2 tr htr
theorem loops_mem {op:Int} {ss:List Ex} (h:anyLoops op ss=false):∀ s ∈ ss,loops s=false∧((op=3∨op=4)→empty s=false):=by
  induction ss with
  | nil=>simp
  | cons x ss ih =>
    simp only [anyLoops,Bool.or_eq_false_iff,Bool.and_eq_false_iff] at h
    intro s hs
    rcases List.mem_cons.1 hs with rfl | hs
    · refine ⟨h.1.1,fun ho => ?_⟩
      rcases h.1.2 with h | h
      · rcases ho with rfl | rfl <;> simp at h
      · exact h
    · exact ih h.2 s hs
theorem anyEmpty_false {ss:List Ex} (h:∀ s ∈ ss,empty s=false):anyEmpty ss=false:=by
  induction ss with
  | nil=>rfl
  | cons x ss ih=>simp only [anyEmpty,h x (by simp),ih fun s hs=>h s (by simp [hs]),Bool.or_self]
theorem fin_all:∀ (e:Ex) (d:Nat),good d e=true→loops e=false→FinE e:=by
  intro e
  induction e using Ex.ind with
  | h op a b ss ih =>
    intro d hd hlo out lo h
    obtain ⟨d,rfl⟩:∃ d',d=d'+1:=by cases d with | zero=>simp [good] at hd | succ d=>exact ⟨d,rfl⟩
    simp only [good,Bool.and_eq_true,List.all_eq_true] at hd
    have hk:=hd.2.2
    simp only [loops] at hlo
    have hls:=loops_mem hlo
    have ih':∀ s ∈ ss,FinE s:=fun s hs=>ih s hs d (hd.2.1 s hs) (hls s hs).1
    clear ih
    simp only [Laid,nst,lstS,fstS,edg,empty] at h ⊢
    by_cases h0:op=0
    · simp only [if_pos h0] at h ⊢
      have e0:out lo=[.sym a b (lo+1)]:=by rw [h lo (by omega) (by omega) (by omega)]; simp [outL_ch,outL_nil]
      have f0:Fin' out lo:=fin_of fun tr _ he=>by rw [e0] at he; simp [epsOnly,Tr.isEps] at he
      refine ⟨fun hf s h1 h2 => ?_,fun _=>f0⟩
      by_cases e:s=lo
      · rw [e]; exact f0
      · obtain rfl:s=lo+1:=by omega
        exact hf
    simp only [if_neg h0] at h ⊢
    by_cases h1:op=1
    · subst h1
      simp only [if_true] at h ⊢
      obtain ⟨b1,b2⟩:=fin_row ss ih' out (lo+1) lo (by omega) (h lo (by omega) (by omega) (by omega)) fun s h2 h3=>h s (by omega) (by omega) (by omega)
      refine ⟨fun hf s h2 h3 => ?_,fun he=>b2 (by simpa using he)⟩
      obtain ⟨c1,c2⟩:=b1 hf
      by_cases e:s=lo
      · rw [e]; exact c1
      · by_cases e':s=lo+1+nsts ss
        · rw [e']; exact hf
        · exact c2 s (by omega) (by omega)
    simp only [if_neg h1] at h ⊢
    by_cases h2:op=2
    · subst h2
      simp only [if_true] at h ⊢
      obtain ⟨b1,b2⟩:=fin_alt ss ih' out (lo+2) lo (lo+1) (by omega) (by omega) fun s h4 h5=>h s (by omega) (by omega) (by omega)
      have e0:=h lo (by omega) (by omega) (by omega)
      refine ⟨fun hf s h4 h5 => ?_,fun he=>fin_list e0 (b2 (by simpa using he))⟩
      obtain ⟨c1,c2⟩:=b1 hf
      by_cases e:s=lo
      · rw [e]; exact fin_list e0 c1
      · by_cases e':s=lo+1
        · rw [e']; exact hf
        · exact c2 s (by omega) (by omega)
    simp only [if_neg h2] at h ⊢
    by_cases h5:op=5
    · subst h5
      simp only [if_true] at h ⊢
      have hx:∀ s,lo+2≤s→s<lo+2+nsts ss→out s=outL (edgAlt ss (lo+2) lo (lo+1)) s:=fun s h4 h5=>by
        rw [h s (by omega) (by omega) (by omega)]
        simp only [outL_append,outL_ep,outL_nil]
        rw [if_neg (by omega),List.append_nil]
      obtain ⟨b1,b2⟩:=fin_alt ss ih' out (lo+2) lo (lo+1) (by omega) (by omega) hx
      have e0:out lo=outL (edgAlt ss (lo+2) lo (lo+1)) lo++[.eps (lo+1)]:=by
        rw [h lo (by omega) (by omega) (by omega)]
        simp [outL_append,outL_ep,outL_nil]
      refine ⟨fun hf s h4 h5 => ?_,fun he=>by simp at he⟩
      obtain ⟨c1,c2⟩:=b1 hf
      by_cases e:s=lo
      · rw [e]
        refine fin_list e0 fun tr htr => ?_
        rcases List.mem_append.1 htr with htr | htr
        · exact c1 tr htr
        · simp at htr; subst htr; exact hf
      · by_cases e':s=lo+1
        · rw [e']; exact hf
        · exact c2 s (by omega) (by omega)
    simp only [if_neg h5] at h ⊢
    by_cases h3:op=3
    · subst h3
      simp only [if_true] at h ⊢
      have hne:=anyEmpty_false fun s hs=>(hls s hs).2 (.inl rfl)
      have hx:∀ s,lo+5≤s→s<lo+5+nsts ss→out s=outL (edgAlt ss (lo+5) (lo+3) (lo+4)) s:=fun s h4 h5=>by
        rw [h s (by omega) (by omega) (by omega)]
        simp only [outL_append,outL_ep,outL_nil]
        rw [if_neg (by omega),if_neg (by omega),if_neg (by omega),if_neg (by omega),List.append_nil]
      obtain ⟨b1,b2⟩:=fin_alt ss ih' out (lo+5) (lo+3) (lo+4) (by omega) (by omega) hx
      have e1:out (lo+1)=[.eps (lo+3),.eps lo]:=by
        rw [h (lo+1) (by omega) (by omega) (by omega)]
        simp only [outL_append,outL_ep,outL_nil,if_true]
        rw [edgAlt_off (by omega) (by omega) (by omega),if_neg (by omega),if_neg (by omega)]; rfl
      have e3:out (lo+3)=outL (edgAlt ss (lo+5) (lo+3) (lo+4)) (lo+3):=by
        rw [h (lo+3) (by omega) (by omega) (by omega)]
        simp only [outL_append,outL_ep,outL_nil,if_true]
        rw [if_neg (by omega),if_neg (by omega),if_neg (by omega),if_neg (by omega),List.append_nil]
      have e4:out (lo+4)=[.eps (lo+2)]:=by
        rw [h (lo+4) (by omega) (by omega) (by omega)]
        simp only [outL_append,outL_ep,outL_nil,if_true]
        rw [edgAlt_off (by omega) (by omega) (by omega),if_neg (by omega),if_neg (by omega),if_neg (by omega)]; rfl
      have e2:out (lo+2)=[.eps (lo+1)]:=by
        rw [h (lo+2) (by omega) (by omega) (by omega)]
        simp only [outL_append,outL_ep,outL_nil,if_true]
        rw [edgAlt_off (by omega) (by omega) (by omega),if_neg (by omega),if_neg (by omega),if_neg (by omega)]; rfl
      refine ⟨fun hf s h6 h7 => ?_,fun he=>by simp at he⟩
      have f3:Fin' out (lo+3):=fin_list e3 (b2 hne)
      have f1:Fin' out (lo+1):=fin_list e1 fun tr htr=>by
        simp at htr
        rcases htr with rfl | rfl
        · exact f3
        · exact hf
      have f2:=fin_one e2 f1
      have f4:=fin_one e4 f2
      by_cases g0:s=lo
      · rw [g0]; exact hf
      by_cases g1:s=lo+1
      · rw [g1]; exact f1
      by_cases g2:s=lo+2
      · rw [g2]; exact f2
      by_cases g3:s=lo+3
      · rw [g3]; exact f3
      by_cases g4:s=lo+4
      · rw [g4]; exact f4
      · exact (b1 f4).2 s (by omega) (by omega)
    · simp only [if_neg h3] at h ⊢
      have h4:op=4:=by
        simp only [kindOk,if_neg h0,if_neg h1,if_neg h2,Bool.and_eq_true,decide_eq_true_eq] at hk
        omega
      have hne:=anyEmpty_false fun s hs=>(hls s hs).2 (.inr h4)
      have hx:∀ s,lo+4≤s→s<lo+4+nsts ss→out s=outL (edgAlt ss (lo+4) (lo+2) (lo+3)) s:=fun s h4 h5=>by
        rw [h s (by omega) (by omega) (by omega)]
        simp only [outL_append,outL_ep,outL_nil]
        rw [if_neg (by omega),if_neg (by omega),if_neg (by omega),List.append_nil]
      obtain ⟨b1,b2⟩:=fin_alt ss ih' out (lo+4) (lo+2) (lo+3) (by omega) (by omega) hx
      have e2:out (lo+2)=outL (edgAlt ss (lo+4) (lo+2) (lo+3)) (lo+2):=by
        rw [h (lo+2) (by omega) (by omega) (by omega)]
        simp only [outL_append,outL_ep,outL_nil,if_true]
        rw [if_neg (by omega),if_neg (by omega),if_neg (by omega),List.append_nil]
      have e3:out (lo+3)=[.eps (lo+1)]:=by
        rw [h (lo+3) (by omega) (by omega) (by omega)]
        simp only [outL_append,outL_ep,outL_nil,if_true]
        rw [edgAlt_off (by omega) (by omega) (by omega),if_neg (by omega),if_neg (by omega)]; rfl
      have e1:out (lo+1)=[.eps (lo+2),.eps lo]:=by
        rw [h (lo+1) (by omega) (by omega) (by omega)]
        simp only [outL_append,outL_ep,outL_nil,if_true]
        rw [edgAlt_off (by omega) (by omega) (by omega),if_neg (by omega)]; rfl
      have f2:Fin' out (lo+2):=fin_list e2 (b2 hne)
      refine ⟨fun hf s h6 h7 => ?_,fun _=>f2⟩
      have f1:Fin' out (lo+1):=fin_list e1 fun tr htr=>by
        simp at htr
        rcases htr with rfl | rfl
        · exact f2
        · exact hf
      have f3:=fin_one e3 f1
      by_cases g0:s=lo
      · rw [g0]; exact hf
      by_cases g1:s=lo+1
      · rw [g1]; exact f1
      by_cases g2:s=lo+2
      · rw [g2]; exact f2
      by_cases g3:s=lo+3
      · rw [g3]; exact f3
      · exact (b1 f3).2 s (by omega) (by omega)
end
end Lx
end
