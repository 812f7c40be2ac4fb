/- Part 10: Pl9, Pl10, Pl11. -/
import Derived.Test.YtbcngfgemjdllaaGreatDoorB09
set_option linter.unusedVariables false
set_option linter.unusedSimpArgs false
section
namespace Lx
def inR (t:List Nat) (i:Nat) (a b:Int):Bool:=match t[i]? with
  | some c=>decide (a≤(c:Int)) && decide ((c:Int)≤b)
  | none=>false
def itN (g:(Nat→Bool)→Nat→Bool):Nat→(Nat→Bool)→Nat→Bool
  | 0,F=>F
  | m+1,F=>g (itN g m F)
def itOr (g:(Nat→Bool)→Nat→Bool):Nat→(Nat→Bool)→Nat→Bool
  | 0,_,_=>false
  | m+1,F,j=>itOr g m F j || itN g (m+1) F j
mutual
def eB (t:List Nat):Ex→(Nat→Bool)→Nat→Bool
  | .mk op a b ss,F,j =>
    if op=0 then (match j with
      | 0=>false
      | i+1=>F i && inR t i a b)
    else if op=1 then eRow t ss F j
    else if op=2 then eAlt t ss F j
    else if op=5 then eAlt t ss F j || F j
    else if op=3 then F j || itOr (fun G=>eAlt t ss G) (t.length+1) F j
    else itOr (fun G=>eAlt t ss G) (t.length+1) F j
def eRow (t:List Nat):List Ex→(Nat→Bool)→Nat→Bool
  | [],F=>F
  | s::ss,F=>eRow t ss (eB t s F)
def eAlt (t:List Nat):List Ex→(Nat→Bool)→Nat→Bool
  | [],_,_=>false
  | s::ss,F,j=>eB t s F j || eAlt t ss F j
end
inductive Stps (r:Nat→Nat→Prop):Nat→Nat→Nat→Prop
  | nil (i:Nat):Stps r 0 i i
  | snoc {k i j l:Nat} : Stps r k i j→r j l→Stps r (k+1) i l
theorem Stps.many {r:Nat→Nat→Prop} {k i j l:Nat} (s:Stps r k i j) (m:Many r j l):Many r i l:=by
  induction s with
  | nil=>exact m
  | snoc _ h ih=>exact ih (.cons h m)
theorem Stps.cons {r:Nat→Nat→Prop} {i j:Nat} (h:r i j) {k l:Nat} (s:Stps r k j l):Stps r (k+1) i l:=by
  induction s with
  | nil=>exact .snoc (.nil _) h
  | snoc _ h' ih=>exact .snoc (ih h) h'
theorem Many.stps {r:Nat→Nat→Prop} {i j:Nat} (m:Many r i j):∃ k,Stps r k i j:=by
  induction m with
  | nil=>exact ⟨0,.nil _⟩
  | cons h _ ih=>obtain ⟨k,s⟩:=ih; exact ⟨k+1,.cons h s⟩
theorem Stps.len {r:Nat→Nat→Prop} (hr:∀ i j,r i j→i<j) {k i j:Nat} (s:Stps r k i j):i+k≤j:=by
  induction s with
  | nil=>omega
  | snoc _ h ih=>have:=hr _ _ h; omega
section
variable {t:List Nat}
def EOk (t:List Nat) (e:Ex):Prop:=∀ F j,eB t e F j=true ↔ ∃ i,F i=true∧R t e i j
theorem eRow_ok:∀ ss:List Ex,(∀ s ∈ ss,EOk t s)→∀ F j,eRow t ss F j=true ↔ ∃ i,F i=true∧RRow t ss i j
  | [],_,F,j=>by simp [eRow,RRow]
  | s::ss,hs,F,j=>by
    simp only [eRow,RRow,eRow_ok ss (fun s h=>hs s (by simp [h])),hs s (by simp) F]
    constructor
    · rintro ⟨k,⟨i,h1,h2⟩,h3⟩; exact ⟨i,h1,k,h2,h3⟩
    · rintro ⟨i,h1,k,h2,h3⟩; exact ⟨k,⟨i,h1,h2⟩,h3⟩
theorem eAlt_ok:∀ ss:List Ex,(∀ s ∈ ss,EOk t s)→∀ F j,eAlt t ss F j=true ↔ ∃ i,F i=true∧RAlt t ss i j
  | [],_,F,j=>by simp [eAlt,RAlt]
  | s :: ss, hs, F, j => by
    simp only [eAlt,RAlt,Bool.or_eq_true,eAlt_ok ss (fun s h=>hs s (by simp [h])),hs s (by simp) F]
    constructor
    · rintro (⟨i,h1,h2⟩ | ⟨i,h1,h2⟩)
      · exact ⟨i,h1,.inl h2⟩
      · exact ⟨i,h1,.inr h2⟩
    · rintro ⟨i,h1,h2 | h2⟩
      · exact .inl ⟨i,h1,h2⟩
      · exact .inr ⟨i,h1,h2⟩
theorem itN_ok {g:(Nat→Bool)→Nat→Bool} {r:Nat→Nat→Prop} (hg:∀ F j,g F j=true ↔ ∃ i,F i=true∧r i j) (m:Nat):∀ F j,itN g m F j=true ↔ ∃ i,F i=true∧Stps r m i j:=by
  induction m with
  | zero =>
    intro F j
    simp only [itN]
    constructor
    · exact fun h=>⟨j,h,.nil j⟩
    · rintro ⟨i,h1,h2⟩; cases h2; exact h1
  | succ m ih =>
    intro F j
    simp only [itN,hg,ih]
    constructor
    · rintro ⟨k,⟨i,h1,h2⟩,h3⟩; exact ⟨i,h1,.snoc h2 h3⟩
    · rintro ⟨i,h1,h2⟩
      cases h2 with
      | snoc h2 h3=>exact ⟨_,⟨i,h1,h2⟩,h3⟩
theorem itOr_ok {g:(Nat→Bool)→Nat→Bool} {r:Nat→Nat→Prop} (hg:∀ F j,g F j=true ↔ ∃ i,F i=true∧r i j) (m:Nat):∀ F j,itOr g m F j=true ↔ ∃ i k,F i=true∧1≤k∧k≤m∧Stps r k i j:=by
  induction m with
  | zero =>
    intro F j
    simp only [itOr,Bool.false_eq_true,false_iff]
    rintro ⟨i,k,_,h1,h2,_⟩; omega
  | succ m ih =>
    intro F j
    simp only [itOr,Bool.or_eq_true,ih,itN_ok hg]
    constructor
    · rintro (⟨i,k,h1,h2,h3,h4⟩ | ⟨i,h1,h2⟩)
      · exact ⟨i,k,h1,h2,by omega,h4⟩
      · exact ⟨i,m+1,h1,by omega,by omega,h2⟩
    · rintro ⟨i,k,h1,h2,h3,h4⟩
      by_cases e:k=m+1
      · subst e; exact .inr ⟨i,h1,h4⟩
      · exact .inl ⟨i,k,h1,h2,by omega,h4⟩
theorem alt_pos {ss:List Ex} (h:∀ s ∈ ss,empty s=false) {i j:Nat} (hr:RAlt t ss i j):i<j:=by
  have h1:=(R_alt_le ss (fun s _=>R_le s) i j hr).1
  rcases Nat.lt_or_ge i j with h2 | h2
  · exact h2
  · obtain rfl:i=j:=by omega
    have:=empty_alt ss (fun s _=>empty_of s) i hr
    rw [anyEmpty_false h] at this; cases this
theorem eB_ok:∀ (e:Ex) (d:Nat),good d e=true→loops e=false→EOk t e:=by
  intro e
  induction e using Ex.ind with
  | h op a b ss ih =>
    intro d hd hlo F j
    obtain ⟨d,rfl⟩:∃ d',d=d'+1:=by cases d with | zero=>simp [good] at hd | succ d=>exact ⟨d,rfl⟩
    simp only [good,Bool.and_eq_true,List.all_eq_true] at hd
    have hko:=hd.2.2
    simp only [loops] at hlo
    have hls:=loops_mem hlo
    have ih':∀ s ∈ ss,EOk t s:=fun s hs=>ih s hs d (hd.2.1 s hs) (hls s hs).1
    have hal:=eAlt_ok ss ih'
    simp only [eB,R]
    by_cases h0:op=0
    · simp only [if_pos h0]
      cases j with
      | zero=>simp
      | succ i =>
        simp only [Bool.and_eq_true,inR]
        constructor
        · rintro ⟨h1,h2⟩
          refine ⟨i,h1,rfl,?_⟩
          cases hc:t[i]? with
          | none=>rw [hc] at h2; simp at h2
          | some c=>rw [hc] at h2; simp at h2; exact ⟨c,rfl,h2.1,h2.2⟩
        · rintro ⟨i',h1,h2,c,h3,h4,h5⟩
          obtain rfl:i=i':=by omega
          refine ⟨h1,?_⟩
          rw [h3]; simp [h4,h5]
    simp only [if_neg h0]
    by_cases h1:op=1
    · simp only [if_pos h1]; exact eRow_ok ss ih' F j
    simp only [if_neg h1]
    by_cases h2:op=2
    · simp only [if_pos h2]; exact hal F j
    simp only [if_neg h2]
    by_cases h5:op=5
    · simp only [if_pos h5,Bool.or_eq_true,hal F j]
      constructor
      · rintro (⟨i,g1,g2⟩ | g)
        · exact ⟨i,g1,.inr g2⟩
        · exact ⟨j,g,.inl rfl⟩
      · rintro ⟨i,g1,rfl | g2⟩
        · exact .inr g1
        · exact .inl ⟨i,g1,g2⟩
    simp only [if_neg h5]
    have h34:op=3∨op=4:=by
      simp only [kindOk,if_neg h0,if_neg h1,if_neg h2,Bool.and_eq_true,decide_eq_true_eq] at hko
      omega
    have hpos:∀ i j,RAlt t ss i j→i<j:=fun i j=>alt_pos fun s hs=>(hls s hs).2 h34
    have hbd:∀ k i j,1≤k→Stps (RAlt t ss) k i j→k≤t.length+1:=by
      intro k i j hk s
      have h6:=s.len hpos
      cases s with
      | nil=>omega
      | snoc _ h7=>have:=R_alt_le ss (fun s _=>R_le s) _ _ h7; have:=hpos _ _ h7; omega
    have hit:=itOr_ok hal (t.length+1) F j
    by_cases h3:op=3
    · simp only [if_pos h3,Bool.or_eq_true,hit]
      constructor
      · rintro (g | ⟨i,k,g1,_,_,g4⟩)
        · exact ⟨j,g,.nil j⟩
        · exact ⟨i,g1,g4.many (.nil j)⟩
      · rintro ⟨i,g1,g2⟩
        obtain ⟨k,s⟩:=g2.stps
        by_cases hk:k=0
        · subst hk; cases s; exact .inl g1
        · exact .inr ⟨i,k,g1,by omega,hbd k i j (by omega) s,s⟩
    · simp only [if_neg h3,hit]
      constructor
      · rintro ⟨i,k,g1,g2,_,g4⟩
        obtain ⟨k,rfl⟩:∃ k',k=k'+1:=⟨k - 1,by omega⟩
        have g5:=g4.many (.nil j)
        cases g5 with
        | nil=>have:=g4.len hpos; omega
        | cons g6 g7=>exact ⟨i,g1,_,g6,g7⟩
      · rintro ⟨i,g1,l,g2,g3⟩
        obtain ⟨k,s⟩:=g3.stps
        exact ⟨i,k+1,g1,by omega,hbd (k+1) i j (by omega) (.cons g2 s),.cons g2 s⟩
end
def only (i0:Nat) (i:Nat):Bool:=i == i0
def lg1 (E:Nat→Bool) (k:Int):Nat→Int × Nat→Int × Nat
  | 0,x=>x
  | m+1,x=>let y:=lg1 E k m x; if E m && decide (y.2<m) then (k,m) else y
def lgR (t:List Nat) (i0:Nat):List Ex→Nat→Int × Nat→Int × Nat
  | [],_,x=>x
  | e::es,k,x=>lgR t i0 es (k+1) (lg1 (eB t e (only i0)) (k+1) (t.length+1) x)
theorem lg1_ok (E:Nat→Bool) (k:Int) (m:Nat) (x:Int × Nat) :
    (lg1 E k m x=x∧∀ i,i<m→E i=true→i≤x.2)∨(∃ i,lg1 E k m x=(k,i)∧i<m∧E i=true∧x.2<i∧∀ i',i'<m→E i'=true→i'≤i):=by
  induction m with
  | zero=>exact .inl ⟨rfl,by omega⟩
  | succ m ih =>
    simp only [lg1]
    by_cases h:(E m && decide ((lg1 E k m x).2<m))=true
    · rw [if_pos h]
      simp only [Bool.and_eq_true,decide_eq_true_eq] at h
      refine .inr ⟨m,rfl,by omega,h.1,?_,fun i' hi' _=>by omega⟩
      rcases ih with ⟨e,_⟩ | ⟨i,e,h1,h2,h3,h4⟩
      · rw [e] at h; exact h.2
      · omega
    · rw [if_neg h]
      simp only [Bool.and_eq_true,decide_eq_true_eq,not_and] at h
      rcases ih with ⟨e,h1⟩ | ⟨i,e,h1,h2,h3,h4⟩
      · refine .inl ⟨e,fun i hi he => ?_⟩
        by_cases e':i=m
        · subst e'; have:=h he; rw [e] at this; omega
        · exact h1 i (by omega) he
      · refine .inr ⟨i,e,by omega,h2,h3,fun i' hi' he => ?_⟩
        by_cases e':i'=m
        · subst e'; have:=h he; rw [e] at this; simp only at this; omega
        · exact h4 i' (by omega) he
theorem lgR_ok {t:List Nat} {rules:List Ex} (hg:GoodR rules) (i0:Nat):∀ (es:List Ex) (k:Nat) (x:Int × Nat),(∀ j e,es[j]? = some e→rules[k+j]? = some e) →
    (x.1=0∧x.2=i0∧(∀ r,r<k→∀ j,¬ Mt rules t r i0 j))∨(∃ r:Nat,x.1=r+1∧r<k∧Mt rules t r i0 x.2∧(∀ r' j,r'<k→Mt rules t r' i0 j→j≤x.2)∧∀ r',r'<k→Mt rules t r' i0 x.2→r≤r') →
    (lgR t i0 es k x=(0,i0)∧(∀ r,r<k+es.length→∀ j,¬ Mt rules t r i0 j))∨(∃ r:Nat,(lgR t i0 es k x).1=r+1∧Mt rules t r i0 (lgR t i0 es k x).2∧(∀ r' j,r'<k+es.length→Mt rules t r' i0 j→j≤(lgR t i0 es k x).2)∧∀ r',r'<k+es.length→Mt rules t r' i0 (lgR t i0 es k x).2→r≤r')
  | [],k,x,_,h=>by
    simp only [lgR,List.length_nil,Nat.add_zero]
    rcases h with ⟨h1,h2,h3⟩ | ⟨r,h1,_,h3,h4,h5⟩
    · exact .inl ⟨Prod.ext h1 h2,h3⟩
    · exact .inr ⟨r,h1,h3,h4,h5⟩
  | e :: es, k, x, he, h => by
    have hek:rules[k]? = some e:=by simpa using he 0 e rfl
    obtain ⟨⟨d,hd⟩,_,hlo⟩:=hg e (List.mem_of_getElem? hek)
    have hE:∀ i,eB t e (only i0) i=true ↔ R t e i0 i:=fun i=>by
      rw [eB_ok e d hd hlo (only i0) i]
      constructor
      · rintro ⟨i',h1,h2⟩; simp [only] at h1; subst h1; exact h2
      · exact fun h=>⟨i0,by simp [only],h⟩
    have hM:∀ i,Mt rules t k i0 i ↔ R t e i0 i:=fun i=>by
      constructor
      · rintro ⟨e',h1,h2⟩; rw [hek] at h1; cases h1; exact h2
      · exact fun h=>⟨e,hek,h⟩
    have hlen:∀ i,R t e i0 i→i<t.length+1:=fun i hi=>by
      have h1:=nPos hg t k i0 i ((hM i).2 hi)
      have h2:=(R_le e i0 i hi).2
      omega
    simp only [lgR,List.length_cons]
    rw [show k+(es.length+1)=k+1+es.length from by omega]
    refine lgR_ok hg i0 es (k+1) _ (fun j e' hj=>by rw [show k+1+j=k+(j+1) from by omega]; exact he (j+1) e' (by simpa using hj)) ?_
    rcases lg1_ok (eB t e (only i0)) (k+1) (t.length+1) x with ⟨q,q1⟩ | ⟨i,q,q1,q2,q3,q4⟩
    · rw [q]
      have q1':∀ i,R t e i0 i→i≤x.2:=fun i hi=>q1 i (hlen i hi) ((hE i).2 hi)
      rcases h with ⟨h1,h2,h3⟩ | ⟨r,h1,h2,h3,h4,h5⟩
      · refine .inl ⟨h1,h2,fun r hr j hm => ?_⟩
        by_cases e':r=k
        · subst e'
          have:=nPos hg t r i0 j hm
          have:=q1' j ((hM j).1 hm)
          omega
        · exact h3 r (by omega) j hm
      · refine .inr ⟨r,h1,by omega,h3,fun r' j hr hm => ?_,fun r' hr hm => ?_⟩
        · by_cases e':r'=k
          · subst e'; exact q1' j ((hM j).1 hm)
          · exact h4 r' j (by omega) hm
        · by_cases e':r'=k
          · omega
          · exact h5 r' (by omega) hm
    · rw [q]
      refine .inr ⟨k,rfl,by omega,(hM i).2 ((hE i).1 q2),fun r' j hr hm => ?_,fun r' hr hm => ?_⟩
      · by_cases e':r'=k
        · subst e'; have:=(hM j).1 hm; exact q4 j (hlen j this) ((hE j).2 this)
        · rcases h with ⟨_,_,h3⟩ | ⟨r,_,_,_,h4,_⟩
          · exact (h3 r' (by omega) j hm).elim
          · have:=h4 r' j (by omega) hm; simp only; omega
      · by_cases e':r'=k
        · omega
        · rcases h with ⟨_,_,h3⟩ | ⟨r,_,_,_,h4,_⟩
          · exact (h3 r' (by omega) _ hm).elim
          · have:=h4 r' i (by omega) hm; omega
def lgst (rules:List Ex) (t:List Nat) (i0:Nat):Int × Nat:=lgR t i0 rules 0 (0,i0)
theorem lgst_ok {t:List Nat} {rules:List Ex} (hg:GoodR rules) (i0:Nat) :
    (lgst rules t i0=(0,i0)∧∀ r j,¬ Mt rules t r i0 j)∨∃ r:Nat,(lgst rules t i0).1=r+1∧Lgst rules t i0 r (lgst rules t i0).2:=by
  have hlt:∀ r j,Mt rules t r i0 j→r<0+rules.length:=fun r j ⟨e,he,_⟩=>by rw [Nat.zero_add]; exact (List.getElem?_eq_some_iff.1 he).1
  rcases lgR_ok (t:=t) hg i0 rules 0 (0,i0) (fun j e h=>by simpa using h) (.inl ⟨rfl,rfl,by omega⟩) with ⟨h1,h2⟩ | ⟨r,h1,h2,h3,h4⟩
  · exact .inl ⟨h1,fun r j hm=>h2 r (hlt r j hm) j hm⟩
  · exact .inr ⟨r,h1,h2,fun r' j hm=>h3 r' j (hlt r' j hm) hm,fun r' hm=>h4 r' (hlt r' _ hm) hm⟩
end Lx
end
section
namespace Lx
mutual
def rew:Ex→Ex
  | .mk op a b ss =>
    if op=4 then .mk 1 0 0 [(rews ss).headD (.mk 1 0 0 []),.mk 3 0 0 (rews ss)]
    else if op=5 then .mk 2 0 0 [.mk 1 0 0 [],(rews ss).headD (.mk 1 0 0 [])]
    else if op=2 then .mk 2 a b (rews ss).reverse
    else .mk op a b (rews ss)
def rews:List Ex→List Ex
  | []=>[]
  | s::ss=>rew s::rews ss
end
theorem rews_map (ss:List Ex):rews ss=ss.map rew:=by
  induction ss with
  | nil=>rfl
  | cons s ss ih=>simp [rews,ih]
section
variable {t:List Nat}
theorem allEmpty_iff (ss:List Ex):allEmpty ss=true ↔ ∀ s ∈ ss,empty s=true:=by
  induction ss with
  | nil=>simp [allEmpty]
  | cons s ss ih=>simp [allEmpty,ih]
theorem anyEmpty_iff (ss:List Ex):anyEmpty ss=true ↔ ∃ s ∈ ss,empty s=true:=by
  induction ss with
  | nil=>simp [anyEmpty]
  | cons s ss ih=>simp [anyEmpty,ih]
end
end Lx
end
section
namespace Lx
inductive Ers (out:Nat→List Tr):Nat→Nat→Prop
  | refl (s:Nat):Ers out s s
  | step {s t:Nat} {tr:Tr} : epsOnly (out s)=true→tr ∈ out s→Ers out tr.to t→Ers out s t
def rg:Nat→Nat→List Nat
  | _,0=>[]
  | lo,m+1=>lo::rg (lo+1) m
def sumg (g:Nat→Nat):List Nat→Nat
  | []=>0
  | s::l=>g s+sumg g l
def sumt (c:Nat→Nat):List Tr→Nat
  | []=>0
  | tr::l=>c tr.to+sumt c l
def gsy (out:Nat→List Tr) (c:Nat→Nat) (s:Nat):Nat:=match out s with
  | [.sym _ _ q]=>c q
  | _=>0
mutual
def fE:Ex→Nat→Nat
  | .mk op _ _ ss,k=>if op=0 then 1 else if op=1 then fRow ss k else if op=2 then fAlt ss k else if op=5 then fAlt ss k+k else if op=3 then fAlt ss 0+k else fAlt ss 0
def fRow:List Ex→Nat→Nat
  | [],k=>k
  | s::ss,k=>fE s (fRow ss k)
def fAlt:List Ex→Nat→Nat
  | [],_=>0
  | s::ss,k=>fE s k+fAlt ss k
end
mutual
def gE:Ex→Nat→Nat
  | .mk op _ _ ss,k=>if op=0 then k else if op=1 then gRow ss k else if op=2 then gAlt ss k else if op=5 then gAlt ss k else gAlt ss (fAlt ss 0+k)
def gRow:List Ex→Nat→Nat
  | [],_=>0
  | s::ss,k=>gE s (fRow ss k)+gRow ss k
def gAlt:List Ex→Nat→Nat
  | [],_=>0
  | s::ss,k=>gE s k+gAlt ss k
end
theorem mem_rg:∀ {m lo s:Nat},s ∈ rg lo m ↔ lo≤s∧s<lo+m
  | 0,lo,s=>by simp only [rg,List.not_mem_nil,false_iff]; omega
  | m+1,lo,s=>by simp only [rg,List.mem_cons,mem_rg (m:=m)]; omega
theorem rg_add:∀ (m lo k:Nat),rg lo (m+k)=rg lo m++rg (lo+m) k
  | 0,lo,k=>by simp [rg]
  | m+1,lo,k=>by
    rw [show m+1+k=(m+k)+1 from by omega]
    simp only [rg,List.cons_append]
    rw [rg_add m (lo+1) k,show lo+1+m=lo+(m+1) from by omega]
theorem rg_one (lo:Nat):rg lo 1=[lo]:=rfl
theorem sumg_append (g:Nat→Nat):∀ (l m:List Nat),sumg g (l++m)=sumg g l+sumg g m
  | [],m=>by simp [sumg]
  | s::l,m=>by simp only [List.cons_append,sumg,sumg_append g l m,Nat.add_assoc]
theorem sumg_perm {g:Nat→Nat} {l m:List Nat} (p:l.Perm m):sumg g l=sumg g m:=by
  induction p with
  | nil=>rfl
  | cons x _ ih=>simp only [sumg,ih]
  | swap x y l=>simp only [sumg]; omega
  | trans _ _ a b=>exact a.trans b
theorem sumt_append (c:Nat→Nat):∀ (l m:List Tr),sumt c (l++m)=sumt c l+sumt c m
  | [],m=>by simp [sumt]
  | s::l,m=>by simp only [List.cons_append,sumt,sumt_append c l m,Nat.add_assoc]
theorem fE_const:∀ (e:Ex),empty e=false→∀ k k':Nat,fE e k=fE e k':=by
  intro e
  induction e using Ex.ind with
  | h op a b ss ih =>
    intro he k k'
    have hrow:∀ l:List Ex,(∀ s ∈ l,s ∈ ss)→allEmpty l=false→fRow l k=fRow l k':=by
      intro l
      induction l with
      | nil=>intro _ h; simp [allEmpty] at h
      | cons s l ihl =>
        intro hm h
        simp only [fRow]
        cases hs:empty s with
        | false=>exact ih s (hm s (by simp)) hs _ _
        | true =>
          simp only [allEmpty,hs,Bool.true_and] at h
          rw [ihl (fun t ht=>hm t (by simp [ht])) h]
    have halt:∀ l:List Ex,(∀ s ∈ l,s ∈ ss)→anyEmpty l=false→fAlt l k=fAlt l k':=by
      intro l
      induction l with
      | nil=>intro _ _; rfl
      | cons s l ihl =>
        intro hm h
        simp only [anyEmpty,Bool.or_eq_false_iff] at h
        simp only [fAlt]
        rw [ih s (hm s (by simp)) h.1 k k',ihl (fun t ht=>hm t (by simp [ht])) h.2]
    simp only [empty] at he
    simp only [fE]
    by_cases h0:op=0
    · simp [h0]
    simp only [if_neg h0] at he ⊢
    by_cases h1:op=1
    · subst h1; simp only [if_true] at he ⊢; exact hrow ss (fun _ h=>h) (by simpa using he)
    simp only [if_neg h1]
    by_cases h2:op=2
    · subst h2; simp only [if_true]; exact halt ss (fun _ h=>h) (by simpa using he)
    simp only [if_neg h2]
    by_cases h5:op=5
    · subst h5; simp at he
    simp only [if_neg h5]
    by_cases h3:op=3
    · subst h3; simp at he
    simp only [if_neg h3]
theorem fAlt_const {ss:List Ex} (h:∀ s ∈ ss,empty s=false) (k k':Nat):fAlt ss k=fAlt ss k':=by
  induction ss with
  | nil=>rfl
  | cons s ss ih=>simp only [fAlt]; rw [fE_const s (h s (by simp)) k k',ih fun t ht=>h t (by simp [ht])]
def HC (out:Nat→List Tr) (c:Nat→Nat) (lo hi:Nat):Prop:=∀ s,lo≤s→s<hi→c s=if epsOnly (out s)=true then sumt c (out s) else 1
theorem HC.one {out:Nat→List Tr} {c:Nat→Nat} {lo hi s q:Nat} (h:HC out c lo hi) (h1:lo≤s) (h2:s<hi) (e:out s=[.eps q]):c s=c q:=by
  rw [h s h1 h2,if_pos (by rw [e]; rfl),e]; simp [sumt,Tr.to]
theorem HC.sub {out:Nat→List Tr} {c:Nat→Nat} {lo hi lo' hi':Nat} (h:HC out c lo hi) (h1:lo≤lo') (h2:hi'≤hi):HC out c lo' hi':=fun s a b=>h s (by omega) (by omega)
theorem gsy_eps {out:Nat→List Tr} {c:Nat→Nat} {s:Nat} (h:∀ tr ∈ out s,tr.isEps=true):gsy out c s=0:=by
  unfold gsy
  split
  · rename_i a b q e
    have:=h (.sym a b q) (by rw [e]; simp)
    simp [Tr.isEps] at this
  · rfl
theorem gsy_one {out:Nat→List Tr} {c:Nat→Nat} {s q:Nat} (h:out s=[.eps q]):gsy out c s=0:=gsy_eps (by rw [h]; simp [Tr.isEps])
def CntE (e:Ex):Prop:=∀ (out:Nat→List Tr) (c:Nat→Nat) (lo:Nat),Laid out (edg e lo) lo (lo+nst e) (lstS e lo)→(∃ q,out (lstS e lo)=[.eps q])→HC out c lo (lo+nst e) →
  c (fstS e lo)=fE e (c (lstS e lo))∧sumg (gsy out c) (rg lo (nst e))=gE e (c (lstS e lo))
theorem cnt_row:∀ (ss:List Ex),(∀ s ∈ ss,CntE s)→∀ (out:Nat→List Tr) (c:Nat→Nat) (lo p:Nat),p<lo→out p=outL (edgRow ss lo p) p→(∀ s,lo≤s→s<lo+nsts ss→out s=outL (edgRow ss lo p) s)→HC out c p (p+1)→HC out c lo (lo+nsts ss) →
    c p=fRow ss (c (lo+nsts ss))∧sumg (gsy out c) (rg lo (nsts ss))=gRow ss (c (lo+nsts ss))∧∃ q,out p=[.eps q]
  | [],_,out,c,lo,p,hp,h0,_,hcp,_=>by
    have e:out p=[.eps lo]:=by rw [h0]; simp [edgRow,outL_ep,outL_nil]
    refine ⟨?_,by simp [nsts,rg,sumg,gRow],_,e⟩
    rw [hcp.one (Nat.le_refl _) (by omega) e]
    simp [fRow,nsts]
  | s :: ss, hs, out, c, lo, p, hp, h0, h, hcp, hc => by
    have hf:=fst_lt s lo
    have hl:=lst_lt s lo
    simp only [nsts] at h hc ⊢
    have e0:out p=[.eps (fstS s lo)]:=by
      rw [h0]
      simp only [edgRow,outL_append,outL_ep,if_true]
      rw [edg_off (by omega),edgRow_off (by omega) (by omega)]; rfl
    have hlaid:Laid out (edg s lo) lo (lo+nst s) (lstS s lo):=fun x h1 h2 h3=>by
      rw [h x h1 (by omega)]
      simp only [edgRow,outL_append,outL_ep]
      rw [if_neg (by omega),edgRow_off (by omega) (by omega),List.append_nil]
    obtain ⟨b1,b2,b3⟩:=cnt_row ss (fun s h=>hs s (by simp [h])) out c (lo+nst s) (lstS s lo) (by omega) (by
      rw [h (lstS s lo) (by omega) (by omega)]
      simp only [edgRow,outL_append,outL_ep]
      rw [if_neg (by omega),edg_off (by omega),List.nil_append]) (fun x h1 h2=>by
      rw [h x (by omega) (by omega)]
      simp only [edgRow,outL_append,outL_ep]
      rw [if_neg (by omega),edg_off (by omega),List.nil_append]) (hc.sub (by omega) (by omega)) (hc.sub (by omega) (by omega))
    obtain ⟨a1,a2⟩:=hs s (by simp) out c lo hlaid b3 (hc.sub (by omega) (by omega))
    rw [show lo+nst s+nsts ss=lo+(nst s+nsts ss) from by omega] at b1 b2
    refine ⟨?_,?_,_,e0⟩
    · rw [hcp.one (Nat.le_refl _) (by omega) e0,a1,b1]; simp only [fRow]
    · rw [rg_add,sumg_append,a2,b2,b1]; simp only [gRow]
theorem cnt_alt:∀ (ss:List Ex),(∀ s ∈ ss,CntE s)→∀ (out:Nat→List Tr) (c:Nat→Nat) (lo st sp:Nat),st<lo→sp<lo→sp≠st→(∀ s,lo≤s→s<lo+nsts ss→out s=outL (edgAlt ss lo st sp) s)→HC out c lo (lo+nsts ss) →
    sumt c (outL (edgAlt ss lo st sp) st)=fAlt ss (c sp)∧sumg (gsy out c) (rg lo (nsts ss))=gAlt ss (c sp)∧(∀ tr ∈ outL (edgAlt ss lo st sp) st,tr.isEps=true)∧(outL (edgAlt ss lo st sp) st).length=ss.length
  | [],_,out,c,lo,st,sp,_,_,_,_,_=>by simp [nsts,rg,sumg,sumt,edgAlt,outL_nil,fAlt,gAlt]
  | s :: ss, hs, out, c, lo, st, sp, h1, h2, h2', h, hc => by
    have hf:=fst_lt s lo
    have hl:=lst_lt s lo
    simp only [nsts] at h hc ⊢
    have e0:outL (edgAlt (s::ss) lo st sp) st=.eps (fstS s lo)::outL (edgAlt ss (lo+nst s) st sp) st:=by
      simp only [edgAlt,outL_append,outL_ep,if_true]
      rw [edg_off (by omega),if_neg (by omega)]; rfl
    have e1:out (lstS s lo)=[.eps sp]:=by
      rw [h (lstS s lo) (by omega) (by omega)]
      simp only [edgAlt,outL_append,outL_ep,if_true]
      rw [if_neg (by omega),edg_off (by omega),edgAlt_off (by omega) (by omega) (by omega)]; rfl
    have hlaid:Laid out (edg s lo) lo (lo+nst s) (lstS s lo):=fun x h3 h4 h5=>by
      rw [h x h3 (by omega)]
      simp only [edgAlt,outL_append,outL_ep]
      rw [if_neg (by omega),if_neg (by omega),edgAlt_off (by omega) (by omega) (by omega),List.append_nil]
    obtain ⟨a1,a2⟩:=hs s (by simp) out c lo hlaid ⟨_,e1⟩ (hc.sub (by omega) (by omega))
    rw [hc.one (by omega) (by omega) e1] at a1 a2
    obtain ⟨b1,b2,b3,b4⟩:=cnt_alt ss (fun s h=>hs s (by simp [h])) out c (lo+nst s) st sp (by omega) (by omega) h2' (fun x h3 h4=>by
      rw [h x (by omega) (by omega)]
      simp only [edgAlt,outL_append,outL_ep]
      rw [if_neg (by omega),if_neg (by omega),edg_off (by omega),List.nil_append]) (hc.sub (by omega) (by omega))
    rw [e0,rg_add,sumg_append]
    simp only [sumt,Tr.to,fAlt,gAlt]
    refine ⟨by rw [a1,b1],by rw [a2,b2],fun tr htr => ?_,by rw [List.length_cons,List.length_cons,b4]⟩
    rcases List.mem_cons.1 htr with rfl | htr
    · rfl
    · exact b3 tr htr
theorem epsOnly_len {l:List Tr} (h:∀ tr ∈ l,tr.isEps=true) (hn:0<l.length):epsOnly l=true:=by
  unfold epsOnly
  rw [Bool.and_eq_true]
  refine ⟨?_,List.all_eq_true.2 h⟩
  cases l with
  | nil=>simp at hn
  | cons _ _=>rfl
theorem cnt_all:∀ (e:Ex) (d:Nat),good d e=true→loops e=false→CntE e:=by
  intro e
  induction e using Ex.ind with
  | h op a b ss ih =>
    intro d hd hlo out c lo h hq hc
    obtain ⟨d,rfl⟩:∃ d',d=d'+1:=by cases d with | zero=>simp [good] at hd | succ d=>exact ⟨d,rfl⟩
    simp only [good,Bool.and_eq_true,List.all_eq_true] at hd
    have hk:=hd.2.2
    simp only [loops] at hlo
    have hls:=loops_mem hlo
    have ih':∀ s ∈ ss,CntE s:=fun s hs=>ih s hs d (hd.2.1 s hs) (hls s hs).1
    clear ih
    obtain ⟨q,hq⟩:=hq
    simp only [Laid,nst,lstS,fstS,edg,fE,gE] at h hq hc ⊢
    by_cases h0:op=0
    · simp only [if_pos h0] at h hq hc ⊢
      have e0:out lo=[.sym a b (lo+1)]:=by rw [h lo (by omega) (by omega) (by omega)]; simp [outL_ch,outL_nil]
      have c0:c lo=1:=by rw [hc lo (by omega) (by omega),e0]; simp [epsOnly,Tr.isEps]
      refine ⟨c0,?_⟩
      have g0:gsy out c lo=c (lo+1):=by unfold gsy; rw [e0]
      simp only [rg,sumg,g0,gsy_one hq,Nat.add_zero]
    simp only [if_neg h0] at h hq hc ⊢
    by_cases h1:op=1
    · subst h1
      simp only [if_true] at h hq hc ⊢
      obtain ⟨b1,b2,_,b3⟩:=cnt_row ss ih' out c (lo+1) lo (by omega) (h lo (by omega) (by omega) (by omega)) (fun s h2 h3=>h s (by omega) (by omega) (by omega)) (hc.sub (by omega) (by omega)) (hc.sub (by omega) (by omega))
      refine ⟨b1,?_⟩
      rw [show 2+nsts ss=1+(nsts ss+1) from by omega,rg_add,rg_add,rg_one,rg_one,sumg_append,sumg_append,b2]
      simp only [sumg,gsy_one b3,gsy_one hq]
      omega
    simp only [if_neg h1] at h hq hc ⊢
    by_cases h2:op=2
    · subst h2
      simp only [if_true] at h hq hc ⊢
      obtain ⟨b1,b2,b3,b4⟩:=cnt_alt ss ih' out c (lo+2) lo (lo+1) (by omega) (by omega) (by omega) (fun s h4 h5=>h s (by omega) (by omega) (by omega)) (hc.sub (by omega) (by omega))
      have e0:=h lo (by omega) (by omega) (by omega)
      have hn:0<ss.length:=by
        simp [kindOk] at hk
        exact hk
      rw [← e0] at b1 b3 b4
      refine ⟨?_,?_⟩
      · rw [hc lo (by omega) (by omega),if_pos (epsOnly_len b3 (by omega)),b1]
      · rw [show 2+nsts ss=1+(1+nsts ss) from by omega,rg_add,rg_add,rg_one,rg_one,sumg_append,sumg_append,show lo+1+1=lo+2 from rfl,b2]
        simp only [sumg,gsy_eps b3,gsy_one hq]
        omega
    simp only [if_neg h2] at h hq hc ⊢
    by_cases h5:op=5
    · subst h5
      simp only [if_true] at h hq hc ⊢
      have hx:∀ s,lo+2≤s→s<lo+2+nsts ss→out s=outL (edgAlt ss (lo+2) lo (lo+1)) s:=fun s h4 h5=>by
        rw [h s (by omega) (by omega) (by omega)]
        simp only [outL_append,outL_ep,outL_nil]
        rw [if_neg (by omega),List.append_nil]
      obtain ⟨b1,b2,b3,b4⟩:=cnt_alt ss ih' out c (lo+2) lo (lo+1) (by omega) (by omega) (by omega) hx (hc.sub (by omega) (by omega))
      have e0:out lo=outL (edgAlt ss (lo+2) lo (lo+1)) lo++[.eps (lo+1)]:=by
        rw [h lo (by omega) (by omega) (by omega)]
        simp [outL_append,outL_ep,outL_nil]
      have s0:∀ tr ∈ out lo,tr.isEps=true:=by
        rw [e0]
        intro tr htr
        rcases List.mem_append.1 htr with htr | htr
        · exact b3 tr htr
        · simp at htr; subst htr; rfl
      refine ⟨?_,?_⟩
      · rw [hc lo (by omega) (by omega),if_pos (epsOnly_len s0 (by rw [e0,List.length_append]; simp)),e0,sumt_append,b1]
        simp [sumt,Tr.to]
      · rw [show 2+nsts ss=1+(1+nsts ss) from by omega,rg_add,rg_add,rg_one,rg_one,sumg_append,sumg_append,show lo+1+1=lo+2 from rfl,b2]
        simp only [sumg,gsy_eps s0,gsy_one hq]
        omega
    simp only [if_neg h5] at h hq hc ⊢
    by_cases h3:op=3
    · subst h3
      simp only [if_true] at h hq hc ⊢
      have hne:∀ s ∈ ss,empty s=false:=fun s hs=>(hls s hs).2 (.inl rfl)
      have hx:∀ s,lo+5≤s→s<lo+5+nsts ss→out s=outL (edgAlt ss (lo+5) (lo+3) (lo+4)) s:=fun s h4 h5=>by
        rw [h s (by omega) (by omega) (by omega)]
        simp only [outL_append,outL_ep,outL_nil]
        rw [if_neg (by omega),if_neg (by omega),if_neg (by omega),if_neg (by omega),List.append_nil]
      obtain ⟨b1,b2,b3,b4⟩:=cnt_alt ss ih' out c (lo+5) (lo+3) (lo+4) (by omega) (by omega) (by omega) hx (hc.sub (by omega) (by omega))
      have e1:out (lo+1)=[.eps (lo+3),.eps lo]:=by
        rw [h (lo+1) (by omega) (by omega) (by omega)]
        simp only [outL_append,outL_ep,outL_nil,if_true]
        rw [edgAlt_off (by omega) (by omega) (by omega),if_neg (by omega),if_neg (by omega)]; rfl
      have e3:out (lo+3)=outL (edgAlt ss (lo+5) (lo+3) (lo+4)) (lo+3):=by
        rw [h (lo+3) (by omega) (by omega) (by omega)]
        simp only [outL_append,outL_ep,outL_nil,if_true]
        rw [if_neg (by omega),if_neg (by omega),if_neg (by omega),if_neg (by omega),List.append_nil]
      have e4:out (lo+4)=[.eps (lo+2)]:=by
        rw [h (lo+4) (by omega) (by omega) (by omega)]
        simp only [outL_append,outL_ep,outL_nil,if_true]
        rw [edgAlt_off (by omega) (by omega) (by omega),if_neg (by omega),if_neg (by omega),if_neg (by omega)]; rfl
      have e2:out (lo+2)=[.eps (lo+1)]:=by
        rw [h (lo+2) (by omega) (by omega) (by omega)]
        simp only [outL_append,outL_ep,outL_nil,if_true]
        rw [edgAlt_off (by omega) (by omega) (by omega),if_neg (by omega),if_neg (by omega),if_neg (by omega)]; rfl
      have hn:0<ss.length:=by
        simp only [kindOk,if_neg h0,if_neg h1,if_neg h2,Bool.and_eq_true,decide_eq_true_eq,beq_iff_eq] at hk
        omega
      rw [← e3] at b1 b3 b4
      have c3:c (lo+3)=fAlt ss 0:=by
        rw [hc (lo+3) (by omega) (by omega),if_pos (epsOnly_len b3 (by omega)),b1]
        exact fAlt_const hne _ _
      have c1:c (lo+1)=fAlt ss 0+c lo:=by
        rw [hc (lo+1) (by omega) (by omega),e1,if_pos (by rfl)]
        simp [sumt,Tr.to,c3]
      have c2:c (lo+2)=c (lo+1):=hc.one (by omega) (by omega) e2
      have c4:c (lo+4)=c (lo+2):=hc.one (by omega) (by omega) e4
      refine ⟨c1,?_⟩
      have r5:rg lo (5+nsts ss)=lo::(lo+1)::(lo+2)::(lo+3)::(lo+4)::rg (lo+5) (nsts ss):=by rw [rg_add]; rfl
      rw [r5]
      simp only [sumg,gsy_one hq,gsy_eps b3,gsy_one e2,gsy_one e4,b2,c4,c2,c1]
      rw [gsy_eps (s:=lo+1) (by rw [e1]; simp [Tr.isEps])]
      omega
    · simp only [if_neg h3] at h hq hc ⊢
      have h4:op=4:=by
        simp only [kindOk,if_neg h0,if_neg h1,if_neg h2,Bool.and_eq_true,decide_eq_true_eq] at hk
        omega
      have hne:∀ s ∈ ss,empty s=false:=fun s hs=>(hls s hs).2 (.inr h4)
      have hx:∀ s,lo+4≤s→s<lo+4+nsts ss→out s=outL (edgAlt ss (lo+4) (lo+2) (lo+3)) s:=fun s h4 h5=>by
        rw [h s (by omega) (by omega) (by omega)]
        simp only [outL_append,outL_ep,outL_nil]
        rw [if_neg (by omega),if_neg (by omega),if_neg (by omega),List.append_nil]
      obtain ⟨b1,b2,b3,b4⟩:=cnt_alt ss ih' out c (lo+4) (lo+2) (lo+3) (by omega) (by omega) (by omega) hx (hc.sub (by omega) (by omega))
      have e2:out (lo+2)=outL (edgAlt ss (lo+4) (lo+2) (lo+3)) (lo+2):=by
        rw [h (lo+2) (by omega) (by omega) (by omega)]
        simp only [outL_append,outL_ep,outL_nil,if_true]
        rw [if_neg (by omega),if_neg (by omega),if_neg (by omega),List.append_nil]
      have e3:out (lo+3)=[.eps (lo+1)]:=by
        rw [h (lo+3) (by omega) (by omega) (by omega)]
        simp only [outL_append,outL_ep,outL_nil,if_true]
        rw [edgAlt_off (by omega) (by omega) (by omega),if_neg (by omega),if_neg (by omega)]; rfl
      have e1:out (lo+1)=[.eps (lo+2),.eps lo]:=by
        rw [h (lo+1) (by omega) (by omega) (by omega)]
        simp only [outL_append,outL_ep,outL_nil,if_true]
        rw [edgAlt_off (by omega) (by omega) (by omega),if_neg (by omega)]; rfl
      have hn:0<ss.length:=by
        simp only [kindOk,if_neg h0,if_neg h1,if_neg h2,Bool.and_eq_true,decide_eq_true_eq,beq_iff_eq] at hk
        omega
      rw [← e2] at b1 b3 b4
      have c2:c (lo+2)=fAlt ss 0:=by
        rw [hc (lo+2) (by omega) (by omega),if_pos (epsOnly_len b3 (by omega)),b1]
        exact fAlt_const hne _ _
      have c1:c (lo+1)=fAlt ss 0+c lo:=by
        rw [hc (lo+1) (by omega) (by omega),e1,if_pos (by rfl)]
        simp [sumt,Tr.to,c2]
      have c3:c (lo+3)=c (lo+1):=hc.one (by omega) (by omega) e3
      refine ⟨c2,?_⟩
      have r4:rg lo (4+nsts ss)=lo::(lo+1)::(lo+2)::(lo+3)::rg (lo+4) (nsts ss):=by rw [rg_add]; rfl
      rw [r4]
      simp only [sumg,gsy_one hq,gsy_eps b3,gsy_one e3,b2,c3,c1]
      rw [gsy_eps (s:=lo+1) (by rw [e1]; simp [Tr.isEps])]
      omega
end Lx
end
