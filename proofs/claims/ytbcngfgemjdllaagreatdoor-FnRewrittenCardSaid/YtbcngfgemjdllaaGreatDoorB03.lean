/- Part 3: Pl1, Pl2. -/
set_option linter.unusedVariables false
set_option linter.unusedSimpArgs false
section
namespace Lx
inductive Ex where
  | mk (op a b:Int) (subs:List Ex)
namespace Ex
def op:Ex→Int | mk o _ _ _=>o
def lo:Ex→Int | mk _ a _ _=>a
def hi:Ex→Int | mk _ _ b _=>b
def subs:Ex→List Ex | mk _ _ _ s=>s
theorem ind {P : Ex → Prop} (h : ∀ op a b subs, (∀ s ∈ subs, P s) → P (mk op a b subs)) : ∀ e, P e := by
  intro e
  exact Ex.rec (motive_1 := P) (motive_2 := fun l => ∀ s ∈ l, P s) (fun op a b subs ih => h op a b subs ih) (by simp)
    (fun x xs hx hxs => by intro s hs; rcases List.mem_cons.1 hs with rfl | hs
                           · exact hx
                           · exact hxs s hs) e
end Ex
mutual
def size:Ex→Nat | .mk _ _ _ ss=>1+sizes ss
def sizes:List Ex→Nat | []=>0 | s::ss=>size s+sizes ss
end
def kindOk (op a b:Int) (n:Nat):Bool :=
  if op=0 then decide (0≤a) && decide (a≤b) && decide (b≤127) && n == 0
  else if op=1 then true
  else if op=2 then decide (0<n)
  else decide (3≤op) && decide (op≤5) && n == 1
def good:Nat→Ex→Bool
  | 0,_=>false
  | d+1,.mk op a b ss=>decide (ss.length≤4) && (ss.all (good d) && kindOk op a b ss.length)
mutual
def empty:Ex→Bool
  | .mk op _ _ ss=>if op=0 then false else if op=3∨op=5 then true else if op=1 then allEmpty ss else anyEmpty ss
def allEmpty:List Ex→Bool | []=>true | s::ss=>empty s && allEmpty ss
def anyEmpty:List Ex→Bool | []=>false | s::ss=>empty s || anyEmpty ss
end
mutual
def loops:Ex→Bool | .mk op _ _ ss=>anyLoops op ss
def anyLoops:Int→List Ex→Bool
  | _,[]=>false
  | op,s::ss=>(loops s || (op == 3 || op == 4) && empty s) || anyLoops op ss
end
inductive Many (r:Nat→Nat→Prop):Nat→Nat→Prop
  | nil (i:Nat):Many r i i
  | cons {i j k:Nat} : r i j→Many r j k→Many r i k
mutual
def R (t:List Nat):Ex→Nat→Nat→Prop
  | .mk op a b ss,i,j =>
    if op=0 then j=i+1∧∃ c:Nat,t[i]? = some c∧a≤(c:Int)∧(c:Int)≤b
    else if op=1 then RRow t ss i j
    else if op=2 then RAlt t ss i j
    else if op=5 then i=j∨RAlt t ss i j
    else if op=3 then Many (RAlt t ss) i j
    else ∃ k,RAlt t ss i k∧Many (RAlt t ss) k j
def RRow (t:List Nat):List Ex→Nat→Nat→Prop
  | [],i,j=>i=j
  | s::ss,i,j=>∃ k,R t s i k∧RRow t ss k j
def RAlt (t:List Nat):List Ex→Nat→Nat→Prop
  | [],_,_=>False
  | s::ss,i,j=>R t s i j∨RAlt t ss i j
end
inductive Tr where
  | eps (to:Nat)
  | sym (a b:Int) (to:Nat)
def Tr.to:Tr→Nat | eps q=>q | sym _ _ q=>q
def Tr.isEps:Tr→Bool | eps _=>true | sym .. => false
def Tr.fits (c:Int):Tr→Bool | eps _=>false | sym a b _=>decide (a≤c) && decide (c≤b)
inductive Stp (out:Nat→List Tr) (t:List Nat):Nat × Nat→Nat × Nat→Prop
  | eps {s q i:Nat} : Tr.eps q ∈ out s→Stp out t (s,i) (q,i)
  | sym {s q i c:Nat} {a b:Int} : Tr.sym a b q ∈ out s→t[i]? = some c→a≤(c:Int)→(c:Int)≤b→Stp out t (s,i) (q,i+1)
inductive Pth (out:Nat→List Tr) (t:List Nat):Nat→Nat × Nat→Nat × Nat→Prop
  | nil (x:Nat × Nat):Pth out t 0 x x
  | cons {x y z:Nat × Nat} {n:Nat} : Stp out t x y→Pth out t n y z→Pth out t (n+1) x z
mutual
def Frag (out:Nat→List Tr):Ex→Nat→Nat→Prop
  | .mk op a b ss,f,t =>
    if op=0 then out f=[.sym a b t]
    else if op=1 then FRow out ss f t
    else if op=2 then FAlt out ss (out f) t
    else if op=5 then ∃ l,out f=l++[.eps t]∧FAlt out ss l t
    else if op=3 then ∃ st sp bk,out f=[.eps st,.eps t]∧FAlt out ss (out st) sp∧out sp=[.eps bk]∧out bk=[.eps f]
    else ∃ sp bk,FAlt out ss (out f) sp∧out sp=[.eps bk]∧out bk=[.eps f,.eps t]
def FRow (out:Nat→List Tr):List Ex→Nat→Nat→Prop
  | [],p,t=>out p=[.eps t]
  | s::ss,p,t=>∃ f l,out p=[.eps f]∧Frag out s f l∧FRow out ss l t
def FAlt (out:Nat→List Tr):List Ex→List Tr→Nat→Prop
  | [],trs,_=>trs=[]
  | s::ss,trs,stop=>∃ f l rest,trs=.eps f::rest∧Frag out s f l∧out l=[.eps stop]∧FAlt out ss rest stop
end
section
variable {out:Nat→List Tr} {t:List Nat}
theorem Stp.of_eps {s q i:Nat} {y:Nat × Nat} (h:out s=[.eps q]) (hs:Stp out t (s,i) y):y=(q,i):=by
  cases hs with
  | eps h'=>rw [h] at h'; simp at h'; rw [h']
  | sym h'=>rw [h] at h'; simp at h'
theorem Pth.one {s q i g k n:Nat} (h:out s=[.eps q]) (hg:out g=[]) (p:Pth out t n (s,i) (g,k)):∃ m,m+1=n∧Pth out t m (q,i) (g,k):=by
  cases p with
  | nil=>rw [h] at hg; cases hg
  | cons hs hp=>rw [Stp.of_eps h hs] at hp; exact ⟨_,rfl,hp⟩
def Snd (out:Nat→List Tr) (t:List Nat) (e:Ex):Prop :=
  ∀ f l,Frag out e f l→∀ n i g k,Pth out t n (f,i) (g,k)→out g=[]→∃ j m,R t e i j∧m+1≤n∧Pth out t m (l,j) (g,k)
theorem snd_row:∀ ss:List Ex,(∀ s ∈ ss,Snd out t s)→∀ p l,FRow out ss p l→∀ n i g k,Pth out t n (p,i) (g,k)→out g=[] →
    ∃ j m,RRow t ss i j∧m+1≤n∧Pth out t m (l,j) (g,k)
  | [],_,p,l,hf,n,i,g,k,hp,hg=>by
    simp only [FRow] at hf
    obtain ⟨m,hm,hp⟩:=hp.one hf hg
    exact ⟨i,m,by simp [RRow],by omega,hp⟩
  | s::ss,hs,p,l,hf,n,i,g,k,hp,hg=>by
    simp only [FRow] at hf
    obtain ⟨f,l',hpf,hsf,hr⟩:=hf
    obtain ⟨m,hm,hp⟩:=hp.one hpf hg
    obtain ⟨j,m',hR,hm',hp⟩:=hs s (by simp) f l' hsf m i g k hp hg
    obtain ⟨j',m'',hR',hm'',hp⟩:=snd_row ss (fun s h=>hs s (by simp [h])) l' l hr m' j g k hp hg
    exact ⟨j',m'',by simp only [RRow]; exact ⟨j,hR,hR'⟩,by omega,hp⟩
theorem snd_alt:∀ ss:List Ex,(∀ s ∈ ss,Snd out t s)→∀ trs l,FAlt out ss trs l→(∀ tr ∈ trs,∃ q,tr=.eps q)∧∀ q,Tr.eps q ∈ trs→∀ n i g k,Pth out t n (q,i) (g,k)→out g=[] →
    ∃ j m,RAlt t ss i j∧m+2≤n∧Pth out t m (l,j) (g,k)
  | [],_,trs,l,hf=>by simp only [FAlt] at hf; subst hf; simp
  | s :: ss, hs, trs, l, hf => by
    simp only [FAlt] at hf
    obtain ⟨f,l',rest,rfl,hsf,hl,hr⟩:=hf
    obtain ⟨h1,h2⟩:=snd_alt ss (fun s h=>hs s (by simp [h])) rest l hr
    refine ⟨?_,?_⟩
    · intro tr htr
      rcases List.mem_cons.1 htr with rfl | htr
      · exact ⟨_,rfl⟩
      · exact h1 tr htr
    · intro q hq n i g k hp hg
      rcases List.mem_cons.1 hq with hq | hq
      · cases hq
        obtain ⟨j,m,hR,hm,hp⟩:=hs s (by simp) f l' hsf n i g k hp hg
        obtain ⟨m',hm',hp⟩:=hp.one hl hg
        exact ⟨j,m',by simp only [RAlt]; exact .inl hR,by omega,hp⟩
      · obtain ⟨j,m,hR,hm,hp⟩:=h2 q hq n i g k hp hg
        exact ⟨j,m,by simp only [RAlt]; exact .inr hR,hm,hp⟩
theorem Pth.first {s i g k n:Nat} {trs:List Tr} (h:out s=trs) (he:∀ tr ∈ trs,∃ q,tr=.eps q) (hne:trs≠[]) (hg:out g=[]) (p:Pth out t n (s,i) (g,k)) :
    ∃ q m,Tr.eps q ∈ trs∧m+1=n∧Pth out t m (q,i) (g,k):=by
  cases p with
  | nil=>rw [h] at hg; exact (hne hg).elim
  | cons hs hp =>
    cases hs with
    | eps h'=>rw [h] at h'; exact ⟨_,_,h',rfl,hp⟩
    | sym h'=>rw [h] at h'; obtain ⟨q,hq⟩:=he _ h'; cases hq
theorem snd_all (t:List Nat):∀ e d,good d e=true→Snd out t e:=by
  intro e
  induction e using Ex.ind with
  | h op a b ss ih =>
    intro d hd
    obtain ⟨d,rfl⟩:∃ d',d=d'+1:=by cases d with | zero=>simp [good] at hd | succ d=>exact ⟨d,rfl⟩
    simp only [good,Bool.and_eq_true,List.all_eq_true] at hd
    have ih':∀ s ∈ ss,Snd out t s:=fun s hs=>ih s hs d (hd.2.1 s hs)
    have hk:=hd.2.2
    intro f l hf n i g k hp hg
    simp only [Frag] at hf
    by_cases h0:op=0
    · subst h0
      simp only [if_true] at hf
      cases hp with
      | nil=>rw [hf] at hg; cases hg
      | cons hs hp =>
        cases hs with
        | eps h'=>rw [hf] at h'; simp at h'
        | sym h' hc ha hb =>
          rw [hf] at h'
          simp at h'
          obtain ⟨rfl,rfl,rfl⟩:=h'
          exact ⟨i+1,_,by simp only [R,if_true]; exact ⟨trivial,_,hc,ha,hb⟩,by omega,hp⟩
    by_cases h1:op=1
    · subst h1
      simp only [if_true,if_neg h0] at hf
      obtain ⟨j,m,hR,hm,hp⟩:=snd_row ss ih' f l hf n i g k hp hg
      exact ⟨j,m,by simp only [R,if_true,if_neg h0]; exact hR,hm,hp⟩
    by_cases h2:op=2
    · subst h2
      simp only [if_true,if_neg h0,if_neg h1] at hf
      obtain ⟨e1,e2⟩:=snd_alt ss ih' _ _ hf
      have hne:out f≠[]:=by
        intro e
        rw [e] at hf
        cases ss with
        | nil=>simp [kindOk] at hk
        | cons s ss=>simp [FAlt] at hf
      obtain ⟨q,m,hq,hm,hp⟩:=hp.first rfl e1 hne hg
      obtain ⟨j,m',hR,hm',hp⟩:=e2 q hq m i g k hp hg
      exact ⟨j,m',by simp only [R,if_true,if_neg h0,if_neg h1]; exact hR,by omega,hp⟩
    by_cases h5:op=5
    · subst h5
      simp only [if_true,if_neg h0,if_neg h1,if_neg h2] at hf
      obtain ⟨trs,ho,hf⟩:=hf
      obtain ⟨e1,e2⟩:=snd_alt ss ih' _ _ hf
      obtain ⟨q,m,hq,hm,hp⟩:=hp.first ho (by
        intro tr htr
        rcases List.mem_append.1 htr with h | h
        · exact e1 tr h
        · simp at h; exact ⟨_,h⟩) (by simp) hg
      rcases List.mem_append.1 hq with hq | hq
      · obtain ⟨j,m',hR,hm',hp⟩:=e2 q hq m i g k hp hg
        exact ⟨j,m',by simp only [R,if_true,if_neg h0,if_neg h1,if_neg h2]; exact .inr hR,by omega,hp⟩
      · simp at hq
        subst hq
        exact ⟨i,m,by simp only [R,if_true,if_neg h0,if_neg h1,if_neg h2]; exact .inl trivial,by omega,hp⟩
    by_cases h3:op=3
    · subst h3
      simp only [if_true,if_neg h0,if_neg h1,if_neg h2,if_neg h5] at hf
      obtain ⟨st,sp,bk,ho,hf,hsp,hbk⟩:=hf
      obtain ⟨e1,e2⟩:=snd_alt ss ih' _ _ hf
      have hne:out st≠[]:=by
        intro e
        rw [e] at hf
        cases ss with
        | nil=>simp [kindOk] at hk
        | cons s ss=>simp [FAlt] at hf
      have key:∀ n i,Pth out t n (f,i) (g,k)→∃ j m,Many (RAlt t ss) i j∧m+1≤n∧Pth out t m (l,j) (g,k):=by
        intro n
        induction n using Nat.strongRecOn with
        | _ n ihn =>
          intro i hp
          obtain ⟨q,m,hq,hm,hp⟩:=hp.first ho (by simp) (by simp) hg
          simp at hq
          rcases hq with rfl | rfl
          · obtain ⟨q,m1,hq,hm1,hp⟩:=hp.first rfl e1 hne hg
            obtain ⟨j,m2,hR,hm2,hp⟩:=e2 q hq m1 i g k hp hg
            obtain ⟨m3,hm3,hp⟩:=hp.one hsp hg
            obtain ⟨m4,hm4,hp⟩:=hp.one hbk hg
            obtain ⟨j',m5,hR',hm5,hp⟩:=ihn m4 (by omega) j hp
            exact ⟨j',m5,.cons hR hR',by omega,hp⟩
          · exact ⟨i,m,.nil i,by omega,hp⟩
      obtain ⟨j,m,hR,hm,hp⟩:=key n i hp
      exact ⟨j,m,by simp only [R,if_true,if_neg h0,if_neg h1,if_neg h2,if_neg h5]; exact hR,hm,hp⟩
    · simp only [if_neg h0,if_neg h1,if_neg h2,if_neg h5,if_neg h3] at hf
      obtain ⟨sp,bk,hf,hsp,hbk⟩:=hf
      obtain ⟨e1,e2⟩:=snd_alt ss ih' _ _ hf
      have hne:out f≠[]:=by
        intro e
        rw [e] at hf
        cases ss with
        | nil=>simp [kindOk,h0,h1,h2] at hk
        | cons s ss=>simp [FAlt] at hf
      have key:∀ n i,Pth out t n (f,i) (g,k)→∃ j j' m,RAlt t ss i j∧Many (RAlt t ss) j j'∧m+1≤n∧Pth out t m (l,j') (g,k):=by
        intro n
        induction n using Nat.strongRecOn with
        | _ n ihn =>
          intro i hp
          obtain ⟨q,m1,hq,hm1,hp1⟩:=hp.first rfl e1 hne hg
          obtain ⟨j,m2,hR,hm2,hp2⟩:=e2 q hq m1 i g k hp1 hg
          obtain ⟨m3,hm3,hp3⟩:=hp2.one hsp hg
          obtain ⟨q',m4,hq',hm4,hp4⟩:=hp3.first hbk (by simp) (by simp) hg
          simp at hq'
          rcases hq' with h' | h'
          · rw [h'] at hp4
            obtain ⟨j1,j2,m5,hR1,hR2,hm5,hp5⟩:=ihn m4 (by omega) j hp4
            exact ⟨j,j2,m5,hR,.cons hR1 hR2,by omega,hp5⟩
          · rw [h'] at hp4
            exact ⟨j,j,m4,hR,.nil j,by omega,hp4⟩
      obtain ⟨j,j',m,hR,hR',hm,hp⟩:=key n i hp
      exact ⟨j',m,by simp only [R,if_neg h0,if_neg h1,if_neg h2,if_neg h5,if_neg h3]; exact ⟨j,hR,hR'⟩,hm,hp⟩
def Rch (out:Nat→List Tr) (t:List Nat) (x y:Nat × Nat):Prop:=∃ n,Pth out t n x y
theorem Rch.refl (x:Nat × Nat):Rch out t x x:=⟨0,.nil x⟩
theorem Rch.head {x y z:Nat × Nat} (h:Stp out t x y):Rch out t y z→Rch out t x z:=fun ⟨n,p⟩=>⟨n+1,.cons h p⟩
theorem Pth.trans {x y z:Nat × Nat} {n:Nat} (p:Pth out t n x y) {m:Nat} (q:Pth out t m y z):Rch out t x z:=by
  induction p with
  | nil=>exact ⟨m,q⟩
  | cons h _ ih=>exact .head h (ih q)
theorem Rch.trans {x y z:Nat × Nat} : Rch out t x y→Rch out t y z→Rch out t x z:=fun ⟨_,p⟩ ⟨_,q⟩=>p.trans q
theorem Rch.one {s q i:Nat} {z:Nat × Nat} (h:out s=[.eps q]) (hq:Rch out t (q,i) z):Rch out t (s,i) z:=.head (.eps (by simp [h])) hq
def Cpl (out:Nat→List Tr) (t:List Nat) (e:Ex):Prop:=∀ f l,Frag out e f l→∀ i j,R t e i j→Rch out t (f,i) (l,j)
theorem cpl_row:∀ ss:List Ex,(∀ s ∈ ss,Cpl out t s)→∀ p l,FRow out ss p l→∀ i j,RRow t ss i j→Rch out t (p,i) (l,j)
  | [],_,p,l,hf,i,j,h=>by
    simp only [FRow] at hf; simp only [RRow] at h; subst h
    exact .one hf (.refl _)
  | s::ss,hs,p,l,hf,i,j,h=>by
    simp only [FRow] at hf; simp only [RRow] at h
    obtain ⟨f,l',hpf,hsf,hr⟩:=hf
    obtain ⟨k,hk,h⟩:=h
    exact .one hpf ((hs s (by simp) f l' hsf i k hk).trans (cpl_row ss (fun s h=>hs s (by simp [h])) l' l hr k j h))
theorem cpl_alt:∀ ss:List Ex,(∀ s ∈ ss,Cpl out t s)→∀ trs l,FAlt out ss trs l→∀ i j,RAlt t ss i j→∃ q,Tr.eps q ∈ trs∧Rch out t (q,i) (l,j)
  | [],_,trs,l,hf,i,j,h=>by simp [RAlt] at h
  | s :: ss, hs, trs, l, hf, i, j, h => by
    simp only [FAlt] at hf; simp only [RAlt] at h
    obtain ⟨f,l',rest,rfl,hsf,hl,hr⟩:=hf
    rcases h with h | h
    · exact ⟨f,by simp,(hs s (by simp) f l' hsf i j h).trans (.one hl (.refl _))⟩
    · obtain ⟨q,hq,h⟩:=cpl_alt ss (fun s h=>hs s (by simp [h])) rest l hr i j h
      exact ⟨q,by simp [hq],h⟩
theorem cpl_all (t:List Nat):∀ e,Cpl out t e:=by
  intro e
  induction e using Ex.ind with
  | h op a b ss ih =>
    intro f l hf i j h
    simp only [Frag] at hf
    simp only [R] at h
    by_cases h0:op=0
    · rw [if_pos h0] at hf h
      obtain ⟨rfl,c,hc,ha,hb⟩:=h
      exact .head (.sym (by simp [hf]) hc ha hb) (.refl _)
    rw [if_neg h0] at hf h
    by_cases h1:op=1
    · rw [if_pos h1] at hf h; exact cpl_row ss ih f l hf i j h
    rw [if_neg h1] at hf h
    by_cases h2:op=2
    · rw [if_pos h2] at hf h
      obtain ⟨q,hq,h⟩:=cpl_alt ss ih _ _ hf i j h
      exact .head (.eps hq) h
    rw [if_neg h2] at hf h
    by_cases h5:op=5
    · rw [if_pos h5] at hf h
      obtain ⟨trs,ho,hf⟩:=hf
      rcases h with rfl | h
      · exact .head (.eps (by simp [ho])) (.refl _)
      · obtain ⟨q,hq,h⟩:=cpl_alt ss ih _ _ hf i j h
        exact .head (.eps (by simp [ho,hq])) h
    rw [if_neg h5] at hf h
    by_cases h3:op=3
    · rw [if_pos h3] at hf h
      obtain ⟨st,sp,bk,ho,hf,hsp,hbk⟩:=hf
      induction h with
      | nil i=>exact .head (.eps (by simp [ho])) (.refl _)
      | cons hr _ ihm =>
        obtain ⟨q,hq,h⟩:=cpl_alt ss ih _ _ hf _ _ hr
        exact .head (.eps (by simp [ho])) (.head (.eps hq) (h.trans (.one hsp (.one hbk ihm))))
    · rw [if_neg h3] at hf h
      obtain ⟨sp,bk,hf,hsp,hbk⟩:=hf
      obtain ⟨k,hk,h⟩:=h
      obtain ⟨q,hq,hk2⟩:=cpl_alt ss ih _ _ hf _ _ hk
      refine .head (.eps hq) (hk2.trans (.one hsp ?_))
      clear hk hk2 hq
      induction h with
      | nil i=>exact .head (.eps (by simp [hbk])) (.refl _)
      | cons hr _ ihm =>
        obtain ⟨q,hq,h⟩:=cpl_alt ss ih _ _ hf _ _ hr
        exact .head (.eps (by simp [hbk])) (.head (.eps hq) (h.trans (.one hsp ihm)))
end
end Lx
end
section
namespace Lx
structure Ed where
  src:Nat
  to:Nat
  kind:Int
  a1:Int
  a2:Int
  deriving DecidableEq
def ep (s q:Nat):Ed:=⟨s,q,1,0,0⟩
def ch (s q:Nat) (a b:Int):Ed:=if a=b then ⟨s,q,5,a,0⟩ else ⟨s,q,2,a,b⟩
def Ed.tr (d:Ed):Tr:=if d.kind=1 then .eps d.to else if d.kind=2 then .sym d.a1 d.a2 d.to else .sym d.a1 d.a1 d.to
mutual
def nst:Ex→Nat
  | .mk op _ _ ss=>if op=0 then 2 else if op=1 then 2+nsts ss else if op=2 then 2+nsts ss else if op=5 then 2+nsts ss else if op=3 then 5+nsts ss else 4+nsts ss
def nsts:List Ex→Nat | []=>0 | s::ss=>nst s+nsts ss
end
def fstS:Ex→Nat→Nat
  | .mk op _ _ _,lo=>if op=0 then lo else if op=1 then lo else if op=2 then lo else if op=5 then lo else if op=3 then lo+1 else lo+2
def lstS:Ex→Nat→Nat
  | .mk op _ _ ss,lo=>if op=0 then lo+1 else if op=1 then lo+1+nsts ss else if op=2 then lo+1 else if op=5 then lo+1 else lo
mutual
def edg:Ex→Nat→List Ed
  | .mk op a b ss,lo =>
    if op=0 then [ch lo (lo+1) a b]
    else if op=1 then edgRow ss (lo+1) lo
    else if op=2 then edgAlt ss (lo+2) lo (lo+1)
    else if op=5 then edgAlt ss (lo+2) lo (lo+1)++[ep lo (lo+1)]
    else if op=3 then edgAlt ss (lo+5) (lo+3) (lo+4)++[ep (lo+1) (lo+3),ep (lo+1) lo,ep (lo+4) (lo+2),ep (lo+2) (lo+1)]
    else edgAlt ss (lo+4) (lo+2) (lo+3)++[ep (lo+3) (lo+1),ep (lo+1) (lo+2),ep (lo+1) lo]
def edgRow:List Ex→Nat→Nat→List Ed
  | [],lo,p=>[ep p lo]
  | s::ss,lo,p=>edg s lo++(ep p (fstS s lo)::edgRow ss (lo+nst s) (lstS s lo))
def edgAlt:List Ex→Nat→Nat→Nat→List Ed
  | [],_,_,_=>[]
  | s::ss,lo,st,sp=>edg s lo++(ep st (fstS s lo)::ep (lstS s lo) sp::edgAlt ss (lo+nst s) st sp)
end
def outL (L:List Ed) (s:Nat):List Tr:=(L.filter (fun d=>d.src == s)).map Ed.tr
theorem outL_append (L M:List Ed) (s:Nat):outL (L++M) s=outL L s++outL M s:=by simp [outL]
theorem outL_nil (s:Nat):outL [] s=[]:=rfl
theorem outL_cons (d:Ed) (L:List Ed) (s:Nat):outL (d::L) s=if d.src=s then d.tr::outL L s else outL L s:=by
  unfold outL
  by_cases h:d.src=s <;> simp [h]
theorem outL_none {L:List Ed} {s:Nat} (h:∀ d ∈ L,d.src≠s):outL L s=[]:=by
  unfold outL
  rw [List.filter_eq_nil_iff.2 (by intro d hd; simpa using h d hd)]; rfl
theorem ep_src (s q:Nat):(ep s q).src=s:=rfl
theorem ep_to (s q:Nat):(ep s q).to=q:=rfl
theorem ep_tr (s q:Nat):(ep s q).tr=.eps q:=by simp [ep,Ed.tr]
theorem ch_src (s q:Nat) (a b:Int):(ch s q a b).src=s:=by unfold ch; split <;> rfl
theorem ch_to (s q:Nat) (a b:Int):(ch s q a b).to=q:=by unfold ch; split <;> rfl
theorem ch_tr (s q:Nat) (a b:Int):(ch s q a b).tr=.sym a b q:=by unfold ch; split <;> simp [Ed.tr, *]
theorem outL_ep (s q:Nat) (L:List Ed) (x:Nat):outL (ep s q::L) x=if s=x then .eps q::outL L x else outL L x:=by
  by_cases h:s=x
  · rw [outL_cons,if_pos (by rw [ep_src]; exact h),if_pos h,ep_tr]
  · rw [outL_cons,if_neg (by rw [ep_src]; exact h),if_neg h]
theorem outL_ch (s q:Nat) (a b:Int) (L:List Ed) (x:Nat):outL (ch s q a b::L) x=if s=x then .sym a b q::outL L x else outL L x:=by
  by_cases h:s=x
  · rw [outL_cons,if_pos (by rw [ch_src]; exact h),if_pos h,ch_tr]
  · rw [outL_cons,if_neg (by rw [ch_src]; exact h),if_neg h]
theorem lst_lt (e:Ex) (lo:Nat):lo≤lstS e lo∧lstS e lo<lo+nst e:=by
  cases e with | mk op a b ss =>
  simp only [lstS,nst]
  by_cases h0:op=0
  · simp only [if_pos h0]; omega
  simp only [if_neg h0]
  by_cases h1:op=1
  · simp only [if_pos h1]; omega
  simp only [if_neg h1]
  by_cases h2:op=2
  · simp only [if_pos h2]; omega
  simp only [if_neg h2]
  by_cases h5:op=5
  · simp only [if_pos h5]; omega
  simp only [if_neg h5]
  by_cases h3:op=3
  · simp only [if_pos h3]; omega
  · simp only [if_neg h3]; omega
theorem fst_lt (e:Ex) (lo:Nat):lo≤fstS e lo∧fstS e lo<lo+nst e:=by
  cases e with | mk op a b ss =>
  simp only [fstS,nst]
  by_cases h0:op=0
  · simp only [if_pos h0]; omega
  simp only [if_neg h0]
  by_cases h1:op=1
  · simp only [if_pos h1]; omega
  simp only [if_neg h1]
  by_cases h2:op=2
  · simp only [if_pos h2]; omega
  simp only [if_neg h2]
  by_cases h5:op=5
  · simp only [if_pos h5]; omega
  simp only [if_neg h5]
  by_cases h3:op=3
  · simp only [if_pos h3]; omega
  · simp only [if_neg h3]; omega
def InR (lo hi x:Nat) (d:Ed):Prop:=lo≤d.src∧d.src<hi∧d.src≠x∧lo≤d.to∧d.to<hi
theorem edgRow_in:∀ (ss:List Ex),(∀ s ∈ ss,∀ lo,∀ d ∈ edg s lo,InR lo (lo+nst s) (lstS s lo) d)→∀ (lo p:Nat),p<lo→∀ d ∈ edgRow ss lo p,
    (d.src=p∨(lo≤d.src∧d.src<lo+nsts ss))∧lo≤d.to∧d.to≤lo+nsts ss
  | [],_,lo,p,hp,d,hd=>by
    simp only [edgRow,List.mem_singleton] at hd
    subst hd
    simp [ep,nsts]
  | s :: ss, hs, lo, p, hp, d, hd => by
    simp only [edgRow,List.mem_append,List.mem_cons] at hd
    have hf:=fst_lt s lo
    have hl:=lst_lt s lo
    simp only [nsts]
    rcases hd with hd | rfl | hd
    · obtain ⟨h1,h2,_,h4,h5⟩:=hs s (by simp) lo d hd
      omega
    · simp only [ep_src,ep_to,true_or,or_true,true_and,and_true]; omega
    · have:=edgRow_in ss (fun s h=>hs s (by simp [h])) (lo+nst s) (lstS s lo) (by omega) d hd
      omega
theorem edgAlt_in:∀ (ss:List Ex),(∀ s ∈ ss,∀ lo,∀ d ∈ edg s lo,InR lo (lo+nst s) (lstS s lo) d)→∀ (lo st sp:Nat),st<lo→sp<lo→∀ d ∈ edgAlt ss lo st sp,
    (d.src=st∨(lo≤d.src∧d.src<lo+nsts ss))∧(d.to=sp∨(lo≤d.to∧d.to<lo+nsts ss))
  | [],_,_,_,_,_,_,d,hd=>by simp [edgAlt] at hd
  | s :: ss, hs, lo, st, sp, h1, h2, d, hd => by
    simp only [edgAlt,List.mem_append,List.mem_cons] at hd
    have hf:=fst_lt s lo
    have hl:=lst_lt s lo
    simp only [nsts]
    rcases hd with hd | rfl | rfl | hd
    · obtain ⟨h1,h2,_,h4,h5⟩:=hs s (by simp) lo d hd
      omega
    · simp only [ep_src,ep_to,true_or,or_true,true_and,and_true]; omega
    · simp only [ep_src,ep_to,true_or,or_true,true_and,and_true]; omega
    · have:=edgAlt_in ss (fun s h=>hs s (by simp [h])) (lo+nst s) st sp (by omega) (by omega) d hd
      omega
theorem edg_in:∀ (e:Ex) (lo:Nat),∀ d ∈ edg e lo,InR lo (lo+nst e) (lstS e lo) d:=by
  intro e
  induction e using Ex.ind with
  | h op a b ss ih =>
    intro lo d hd
    unfold InR
    simp only [edg] at hd
    simp only [nst,lstS]
    by_cases h0:op=0
    · simp only [h0,if_true,List.mem_singleton] at hd ⊢
      subst hd
      rw [ch_src,ch_to]; omega
    by_cases h1:op=1
    · subst h1
      have:=edgRow_in ss ih (lo+1) lo (by omega) d (by simpa using hd)
      simp; omega
    by_cases h2:op=2
    · subst h2
      have:=edgAlt_in ss ih (lo+2) lo (lo+1) (by omega) (by omega) d (by simpa using hd)
      simp; omega
    by_cases h5:op=5
    · subst h5
      simp only [h0,h1,h2,if_false,if_true,List.mem_append,List.mem_singleton] at hd ⊢
      rcases hd with hd | rfl
      · have:=edgAlt_in ss ih (lo+2) lo (lo+1) (by omega) (by omega) d hd
        omega
      · simp only [ep_src,ep_to,true_or,or_true,true_and,and_true]; omega
    by_cases h3:op=3
    · subst h3
      simp only [h0,h1,h2,h5,if_false,if_true,List.mem_append,List.mem_cons,List.not_mem_nil,or_false] at hd ⊢
      rcases hd with hd | rfl | rfl | rfl | rfl
      · have:=edgAlt_in ss ih (lo+5) (lo+3) (lo+4) (by omega) (by omega) d hd
        omega
      all_goals (simp only [ep_src,ep_to,true_or,or_true,true_and,and_true]; omega)
    · simp only [h0,h1,h2,h5,h3,if_false,if_true,List.mem_append,List.mem_cons,List.not_mem_nil,or_false] at hd ⊢
      rcases hd with hd | rfl | rfl | rfl
      · have:=edgAlt_in ss ih (lo+4) (lo+2) (lo+3) (by omega) (by omega) d hd
        omega
      all_goals (simp only [ep_src,ep_to,true_or,or_true,true_and,and_true]; omega)
theorem edg_off {e:Ex} {lo s:Nat} (h:s<lo∨lo+nst e≤s∨s=lstS e lo):outL (edg e lo) s=[] :=
  outL_none fun d hd=>by have:=edg_in e lo d hd; unfold InR at this; omega
theorem edgRow_off {ss:List Ex} {lo p s:Nat} (hp:p<lo) (h:(s<lo∧s≠p)∨lo+nsts ss≤s):outL (edgRow ss lo p) s=[] :=
  outL_none fun d hd=>by have:=edgRow_in ss (fun s _ lo=>edg_in s lo) lo p hp d hd; omega
theorem edgAlt_off {ss:List Ex} {lo st sp s:Nat} (h1:st<lo) (h2:sp<lo) (h:(s<lo∧s≠st)∨lo+nsts ss≤s):outL (edgAlt ss lo st sp) s=[] :=
  outL_none fun d hd=>by have:=edgAlt_in ss (fun s _ lo=>edg_in s lo) lo st sp h1 h2 d hd; omega
def Lays (e:Ex):Prop:=∀ (out:Nat→List Tr) (lo:Nat),(∀ s,lo≤s→s<lo+nst e→s≠lstS e lo→out s=outL (edg e lo) s)→Frag out e (fstS e lo) (lstS e lo)
theorem lays_row:∀ (ss:List Ex),(∀ s ∈ ss,Lays s)→∀ (out:Nat→List Tr) (lo p:Nat),p<lo→out p=outL (edgRow ss lo p) p→(∀ s,lo≤s→s<lo+nsts ss→out s=outL (edgRow ss lo p) s) →
    FRow out ss p (lo+nsts ss)
  | [],_,out,lo,p,hp,h0,_=>by
    simp only [FRow,nsts]
    rw [h0]; simp [edgRow,outL_ep,outL_nil]
  | s :: ss, hs, out, lo, p, hp, h0, h => by
    have hf:=fst_lt s lo
    have hl:=lst_lt s lo
    simp only [FRow,nsts] at h ⊢
    refine ⟨fstS s lo,lstS s lo,?_,?_,?_⟩
    · rw [h0]
      simp only [edgRow,outL_append,outL_ep,if_true]
      rw [edg_off (by omega),edgRow_off (by omega) (by omega)]; rfl
    · refine hs s (by simp) out lo fun x h1 h2 h3 => ?_
      rw [h x h1 (by omega)]
      simp only [edgRow,outL_append,outL_ep]
      rw [if_neg (by omega),edgRow_off (by omega) (by omega),List.append_nil]
    · have:=lays_row ss (fun s h=>hs s (by simp [h])) out (lo+nst s) (lstS s lo) (by omega) ?_ ?_
      · rwa [Nat.add_assoc] at this
      · rw [h (lstS s lo) (by omega) (by omega)]
        simp only [edgRow,outL_append,outL_ep]
        rw [if_neg (by omega),edg_off (by omega),List.nil_append]
      · intro x h1 h2
        rw [h x (by omega) (by omega)]
        simp only [edgRow,outL_append,outL_ep]
        rw [if_neg (by omega),edg_off (by omega),List.nil_append]
theorem lays_alt:∀ (ss:List Ex),(∀ s ∈ ss,Lays s)→∀ (out:Nat→List Tr) (lo st sp:Nat),st<lo→sp<lo→(∀ s,lo≤s→s<lo+nsts ss→out s=outL (edgAlt ss lo st sp) s) →
    FAlt out ss (outL (edgAlt ss lo st sp) st) sp
  | [],_,out,lo,st,sp,h1,h2,_=>by simp [FAlt,edgAlt,outL_nil]
  | s :: ss, hs, out, lo, st, sp, h1, h2, h => by
    have hf:=fst_lt s lo
    have hl:=lst_lt s lo
    simp only [FAlt,nsts] at h ⊢
    refine ⟨fstS s lo,lstS s lo,outL (edgAlt ss (lo+nst s) st sp) st,?_,?_,?_,?_⟩
    · simp only [edgAlt,outL_append,outL_ep,if_true]
      rw [edg_off (by omega),if_neg (by omega)]; rfl
    · refine hs s (by simp) out lo fun x h3 h4 h5 => ?_
      rw [h x h3 (by omega)]
      simp only [edgAlt,outL_append,outL_ep]
      rw [if_neg (by omega),if_neg (by omega),edgAlt_off (by omega) (by omega) (by omega),List.append_nil]
    · rw [h (lstS s lo) (by omega) (by omega)]
      simp only [edgAlt,outL_append,outL_ep,if_true]
      rw [if_neg (by omega),edg_off (by omega),edgAlt_off (by omega) (by omega) (by omega)]; rfl
    · refine lays_alt ss (fun s h=>hs s (by simp [h])) out (lo+nst s) st sp (by omega) (by omega) fun x h3 h4 => ?_
      rw [h x (by omega) (by omega)]
      simp only [edgAlt,outL_append,outL_ep]
      rw [if_neg (by omega),if_neg (by omega),edg_off (by omega),List.nil_append]
theorem lays_all:∀ e,Lays e:=by
  intro e
  induction e using Ex.ind with
  | h op a b ss ih =>
    intro out lo h
    simp only [nst,lstS,fstS] at h ⊢
    simp only [Frag]
    simp only [edg] at h
    by_cases h0:op=0
    · simp only [if_pos h0] at h ⊢
      rw [h lo (by omega) (by omega) (by omega)]
      simp [outL_ch,outL_nil]
    simp only [if_neg h0] at h ⊢
    by_cases h1:op=1
    · simp only [if_pos h1] at h ⊢
      exact lays_row ss ih out (lo+1) lo (by omega) (h lo (by omega) (by omega) (by omega)) fun s h2 h3=>h s (by omega) (by omega) (by omega)
    simp only [if_neg h1] at h ⊢
    by_cases h2:op=2
    · simp only [if_pos h2] at h ⊢
      have hal:=lays_alt ss ih out (lo+2) lo (lo+1) (by omega) (by omega) fun s h4 h5=>h s (by omega) (by omega) (by omega)
      rw [h lo (by omega) (by omega) (by omega)]
      exact hal
    simp only [if_neg h2] at h ⊢
    by_cases h5:op=5
    · simp only [if_pos h5] at h ⊢
      have hx:∀ s,lo+2≤s→s<lo+2+nsts ss→out s=outL (edgAlt ss (lo+2) lo (lo+1)) s:=fun s h4 h5=>by
        rw [h s (by omega) (by omega) (by omega)]
        simp only [outL_append,outL_ep,outL_nil]
        rw [if_neg (by omega),List.append_nil]
      have hal:=lays_alt ss ih out (lo+2) lo (lo+1) (by omega) (by omega) hx
      refine ⟨_,?_,hal⟩
      rw [h lo (by omega) (by omega) (by omega)]
      simp [outL_append,outL_ep,outL_nil]
    simp only [if_neg h5] at h ⊢
    by_cases h3:op=3
    · simp only [if_pos h3] at h ⊢
      have hx:∀ s,lo+5≤s→s<lo+5+nsts ss→out s=outL (edgAlt ss (lo+5) (lo+3) (lo+4)) s:=fun s h4 h5=>by
        rw [h s (by omega) (by omega) (by omega)]
        simp only [outL_append,outL_ep,outL_nil]
        rw [if_neg (by omega),if_neg (by omega),if_neg (by omega),if_neg (by omega),List.append_nil]
      have hal:=lays_alt ss ih out (lo+5) (lo+3) (lo+4) (by omega) (by omega) hx
      refine ⟨lo+3,lo+4,lo+2,?_,?_,?_,?_⟩
      · rw [h (lo+1) (by omega) (by omega) (by omega)]
        simp only [outL_append,outL_ep,outL_nil,if_true]
        rw [edgAlt_off (by omega) (by omega) (by omega),if_neg (by omega),if_neg (by omega)]; rfl
      · rw [h (lo+3) (by omega) (by omega) (by omega)]
        simp only [outL_append,outL_ep,outL_nil,if_true]
        rw [if_neg (by omega),if_neg (by omega),if_neg (by omega),if_neg (by omega),List.append_nil]
        exact hal
      · rw [h (lo+4) (by omega) (by omega) (by omega)]
        simp only [outL_append,outL_ep,outL_nil,if_true]
        rw [edgAlt_off (by omega) (by omega) (by omega),if_neg (by omega),if_neg (by omega),if_neg (by omega)]; rfl
      · rw [h (lo+2) (by omega) (by omega) (by omega)]
        simp only [outL_append,outL_ep,outL_nil,if_true]
        rw [edgAlt_off (by omega) (by omega) (by omega),if_neg (by omega),if_neg (by omega),if_neg (by omega)]; rfl
    · simp only [if_neg h3] at h ⊢
      have hx:∀ s,lo+4≤s→s<lo+4+nsts ss→out s=outL (edgAlt ss (lo+4) (lo+2) (lo+3)) s:=fun s h4 h5=>by
        rw [h s (by omega) (by omega) (by omega)]
        simp only [outL_append,outL_ep,outL_nil]
        rw [if_neg (by omega),if_neg (by omega),if_neg (by omega),List.append_nil]
      have hal:=lays_alt ss ih out (lo+4) (lo+2) (lo+3) (by omega) (by omega) hx
      refine ⟨lo+3,lo+1,?_,?_,?_⟩
      · rw [h (lo+2) (by omega) (by omega) (by omega)]
        simp only [outL_append,outL_ep,outL_nil,if_true]
        rw [if_neg (by omega),if_neg (by omega),if_neg (by omega),List.append_nil]
        exact hal
      · rw [h (lo+3) (by omega) (by omega) (by omega)]
        simp only [outL_append,outL_ep,outL_nil,if_true]
        rw [edgAlt_off (by omega) (by omega) (by omega),if_neg (by omega),if_neg (by omega)]; rfl
      · rw [h (lo+1) (by omega) (by omega) (by omega)]
        simp only [outL_append,outL_ep,outL_nil,if_true]
        rw [edgAlt_off (by omega) (by omega) (by omega),if_neg (by omega)]; rfl
end Lx
end
