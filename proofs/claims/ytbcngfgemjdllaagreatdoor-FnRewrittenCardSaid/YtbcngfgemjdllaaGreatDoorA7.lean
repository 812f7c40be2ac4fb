/- Part A7: PR, PW, EQ, FZ, RW, L3g, L7. No conditions beyond those each statement names. -/
import Derived.BigQuiet
import Derived.Test.YtbcngfgemjdllaaGreatDoorB10
import Derived.Test.YtbcngfgemjdllaaGreatDoorB11
import Derived.Test.YtbcngfgemjdllaaGreatDoorB12
import Derived.Test.YtbcngfgemjdllaaGreatDoorB14
import Derived.Test.YtbcngfgemjdllaaGreatDoorB17
import Derived.Test.YtbcngfgemjdllaaGreatDoorB19
import Derived.Test.YtbcngfgemjdllaaGreatDoorB45
import Derived.Test.YtbcngfgemjdllaaGreatDoorB47
set_option linter.unusedVariables false
set_option linter.unusedSimpArgs false
section
namespace Lx
theorem sizes_append:∀ (a b:List Ex),sizes (a++b)=sizes a+sizes b
  | [],b=>by simp [sizes]
  | x::a,b=>by simp only [List.cons_append,sizes,sizes_append a b,Nat.add_assoc]
theorem sizes_reverse:∀ (a:List Ex),sizes a.reverse=sizes a
  | []=>rfl
  | x::a=>by rw [List.reverse_cons,sizes_append,sizes_reverse a]; simp only [sizes]; omega
theorem rew_size:∀ (e:Ex) (d:Nat),good d e=true→size (rew e)≤size e * 2 ^ d:=by
  intro e
  induction e using Ex.ind with
  | h op a b ss ih =>
    intro d hg
    cases d with
    | zero=>simp [good] at hg
    | succ d =>
      simp only [good,Bool.and_eq_true,decide_eq_true_eq,List.all_eq_true] at hg
      obtain ⟨_,hs,hk⟩:=hg
      have h1:∀ (l:List Ex),(∀ s ∈ l,s ∈ ss)→sizes (rews l)≤sizes l * 2 ^ d:=by
        intro l
        induction l with
        | nil=>intro _; simp [rews,sizes]
        | cons x l ihl =>
          intro hm
          have hx:=ih x (hm x (by simp)) d (hs x (hm x (by simp)))
          have hr:=ihl fun s h=>hm s (by simp [h])
          simp only [rews,sizes,Nat.add_mul]
          omega
      have h2:=h1 ss fun _ h=>h
      have h3:1≤2 ^ d:=Nat.one_le_two_pow
      have h4:∀ n:Nat,n * 2 ^ (d+1)=2 * (n * 2 ^ d):=fun n=>by rw [Nat.pow_succ,← Nat.mul_assoc,Nat.mul_comm]
      have h7:size (.mk op a b ss) * 2 ^ (d+1)=2 * (2 ^ d+sizes ss * 2 ^ d):=by simp only [size]; rw [h4,Nat.add_mul,Nat.one_mul]
      rw [h7]
      simp only [rew]
      have h8:ss.length=1→∃ x,ss=[x]:=fun h=>by
        match ss,h with
        | [x],_=>exact ⟨x,rfl⟩
      split
      · next h =>
        subst h
        obtain ⟨x,rfl⟩:=h8 (by simpa [kindOk] using hk)
        simp only [rews,List.headD_cons,size,sizes] at h2 ⊢
        omega
      · split
        · next h =>
          subst h
          obtain ⟨x,rfl⟩:=h8 (by simpa [kindOk] using hk)
          simp only [rews,List.headD_cons,size,sizes] at h2 ⊢
          omega
        · split
          · simp only [size,sizes_reverse]; omega
          · simp only [size]; omega
end Lx
end
section
namespace Lx
section
variable {t:List Nat}
theorem RAlt_iff (ss:List Ex) (i j:Nat):RAlt t ss i j ↔ ∃ s ∈ ss,R t s i j:=by
  induction ss with
  | nil=>simp [RAlt]
  | cons s ss ih=>simp [RAlt,ih]
theorem anyLoops_iff (op:Int) (ss:List Ex):anyLoops op ss=false ↔ ∀ s ∈ ss,loops s=false∧((op=3∨op=4)→empty s=false):=by
  constructor
  · exact loops_mem
  · intro h
    induction ss with
    | nil=>rfl
    | cons s ss ih =>
      obtain ⟨h1,h2⟩:=h s (by simp)
      simp only [anyLoops,h1,ih fun s hs=>h s (by simp [hs]),Bool.false_or,Bool.or_false]
      by_cases e:op=3∨op=4
      · rw [h2 e]; simp
      · have:(op == 3 || op == 4)=false:=by
          simp only [Bool.or_eq_false_iff,beq_eq_false_iff_ne]
          exact ⟨fun h=>e (.inl h),fun h=>e (.inr h)⟩
        rw [this]; rfl
theorem many_congr {r r':Nat→Nat→Prop} (h:∀ i j,r i j→r' i j) {i j:Nat} (m:Many r i j):Many r' i j:=by
  induction m with
  | nil=>exact .nil _
  | cons h1 _ ih=>exact .cons (h _ _ h1) ih
theorem rew_all:∀ (e:Ex) (d:Nat),good d e=true→loops e=false→(∃ d',good d' (rew e)=true)∧empty (rew e)=empty e∧loops (rew e)=false∧∀ t i j,R t (rew e) i j ↔ R t e i j:=by
  intro e
  induction e using Ex.ind with
  | h op a b ss ih =>
    intro d hd hlo
    obtain ⟨d,rfl⟩:∃ d',d=d'+1:=by cases d with | zero=>simp [good] at hd | succ d=>exact ⟨d,rfl⟩
    simp only [good,Bool.and_eq_true,List.all_eq_true,decide_eq_true_eq] at hd
    obtain ⟨hlen,hgs,hko⟩:=hd
    simp only [loops] at hlo
    have hls:=loops_mem hlo
    have ih':=fun s hs=>ih s hs d (hgs s hs) (hls s hs).1
    clear ih
    have hdep:∃ d',∀ s ∈ ss,good d' (rew s)=true:=by
      have mono:∀ (d d':Nat) (e:Ex),d≤d'→good d e=true→good d' e=true:=by
        intro d
        induction d with
        | zero=>intro d' e _ h; simp [good] at h
        | succ d ihd =>
          intro d' e hle h
          obtain ⟨d',rfl⟩:∃ k,d'=k+1:=⟨d' - 1,by omega⟩
          cases e with | mk op a b ss =>
          simp only [good,Bool.and_eq_true,List.all_eq_true] at h ⊢
          exact ⟨h.1,fun s hs=>ihd d' s (by omega) (h.2.1 s hs),h.2.2⟩
      have key:∀ l:List Ex,(∀ s ∈ l,∃ d',good d' (rew s)=true)→∃ d',∀ s ∈ l,good d' (rew s)=true:=by
        intro l
        induction l with
        | nil=>intro _; exact ⟨0,by simp⟩
        | cons x l ihl =>
          intro h
          obtain ⟨d1,h1⟩:=h x (by simp)
          obtain ⟨d2,h2⟩:=ihl fun s hs=>h s (by simp [hs])
          refine ⟨max d1 d2,fun s hs => ?_⟩
          rcases List.mem_cons.1 hs with rfl | hs
          · exact mono _ _ _ (by omega) h1
          · exact mono _ _ _ (by omega) (h2 s hs)
      exact key ss fun s hs=>(ih' s hs).1
    obtain ⟨d',hd'⟩:=hdep
    have mono1:∀ (d:Nat) (e:Ex),good d e=true→good (d+1) e=true:=by
      intro d
      induction d with
      | zero=>intro e h; simp [good] at h
      | succ d ihd =>
        intro e h
        cases e with | mk op a b ss =>
        unfold good at h ⊢
        simp only [Bool.and_eq_true,List.all_eq_true] at h ⊢
        exact ⟨h.1,fun s hs=>ihd s (h.2.1 s hs),h.2.2⟩
    have hemp:∀ s ∈ ss,empty (rew s)=empty s:=fun s hs=>(ih' s hs).2.1
    have hloo:∀ s ∈ ss,loops (rew s)=false:=fun s hs=>(ih' s hs).2.2.1
    have hR:∀ s ∈ ss,∀ t i j,R t (rew s) i j ↔ R t s i j:=fun s hs=>(ih' s hs).2.2.2
    have halt:∀ t i j,RAlt t (ss.map rew) i j ↔ RAlt t ss i j:=by
      intro t i j
      simp only [RAlt_iff,List.mem_map]
      constructor
      · rintro ⟨_,⟨s,hs,rfl⟩,h⟩; exact ⟨s,hs,(hR s hs t i j).1 h⟩
      · rintro ⟨s,hs,h⟩; exact ⟨_,⟨s,hs,rfl⟩,(hR s hs t i j).2 h⟩
    have hall:allEmpty (ss.map rew)=allEmpty ss:=by
      rw [Bool.eq_iff_iff,allEmpty_iff,allEmpty_iff]
      constructor
      · intro h s hs; rw [← hemp s hs]; exact h _ (List.mem_map.2 ⟨s,hs,rfl⟩)
      · rintro h _ hx; obtain ⟨s,hs,rfl⟩:=List.mem_map.1 hx; rw [hemp s hs]; exact h s hs
    have hany:anyEmpty (ss.map rew)=anyEmpty ss:=by
      rw [Bool.eq_iff_iff,anyEmpty_iff,anyEmpty_iff]
      constructor
      · rintro ⟨_,hx,h⟩; obtain ⟨s,hs,rfl⟩:=List.mem_map.1 hx; exact ⟨s,hs,by rwa [← hemp s hs]⟩
      · rintro ⟨s,hs,h⟩; exact ⟨_,List.mem_map.2 ⟨s,hs,rfl⟩,by rwa [hemp s hs]⟩
    simp only [rew,rews_map]
    by_cases h4:op=4
    · subst h4
      simp only [if_true]
      obtain ⟨s,rfl⟩:∃ s,ss=[s]:=by
        simp [kindOk] at hko
        match ss,hko with
        | [s],_=>exact ⟨s,rfl⟩
      have hs:=hls s (by simp)
      have hes:=hs.2 (.inr rfl)
      simp only [List.map_cons,List.map_nil,List.headD_cons]
      have he:=hemp s (by simp)
      have hl:=hloo s (by simp)
      refine ⟨⟨d'+2,?_⟩,?_,?_,?_⟩
      · have h1:=hd' s (by simp)
        simp [good,kindOk,h1,mono1 d' _ h1]
      · simp [empty,allEmpty,anyEmpty,he,hes]
      · simp [loops,anyLoops,hl,he,hes]
      · intro t i j
        have hr:=hR s (by simp) t
        simp only [R,RRow,RAlt,show ((1:Int)=0)=False by simp,show ((3:Int)=0)=False by simp,show ((3:Int)=1)=False by simp,show ((3:Int)=2)=False by simp,show ((3:Int)=5)=False by simp,show ((4:Int)=0)=False by simp,show ((4:Int)=1)=False by simp,show ((4:Int)=2)=False by simp,show ((4:Int)=5)=False by simp,show ((4:Int)=3)=False by simp,if_false,if_true,or_false]
        have hm:∀ k l,Many (fun i j=>R t (rew s) i j) k l ↔ Many (fun i j=>R t s i j) k l:=fun k l =>
          ⟨many_congr fun i j h=>(hr i j).1 h,many_congr fun i j h=>(hr i j).2 h⟩
        constructor
        · rintro ⟨k,g1,l,g2,rfl⟩
          exact ⟨k,(hr i k).1 g1,(hm k l).1 g2⟩
        · rintro ⟨k,g1,g2⟩
          exact ⟨k,(hr i k).2 g1,j,(hm k j).2 g2,rfl⟩
    rw [if_neg h4]
    by_cases h5:op=5
    · subst h5
      simp only [if_true]
      obtain ⟨s,rfl⟩:∃ s,ss=[s]:=by
        simp [kindOk] at hko
        match ss,hko with
        | [s],_=>exact ⟨s,rfl⟩
      simp only [List.map_cons,List.map_nil,List.headD_cons]
      have hl:=hloo s (by simp)
      refine ⟨⟨d'+2,?_⟩,?_,?_,?_⟩
      · have h1:=hd' s (by simp)
        simp [good,kindOk,mono1 d' _ h1]
      · simp [empty,anyEmpty,allEmpty]
      · simp [loops,anyLoops,hl]
      · intro t i j
        have hr:=hR s (by simp) t
        simp only [R,RRow,RAlt,show ((1:Int)=0)=False by simp,show ((2:Int)=0)=False by simp,show ((2:Int)=1)=False by simp,show ((5:Int)=0)=False by simp,show ((5:Int)=1)=False by simp,show ((5:Int)=2)=False by simp,if_false,if_true,or_false,hr i j]
    rw [if_neg h5]
    by_cases h2:op=2
    · subst h2
      simp only [if_true]
      refine ⟨⟨d'+1,?_⟩,?_,?_,?_⟩
      · simp only [good,Bool.and_eq_true,List.all_eq_true,decide_eq_true_eq,List.length_reverse,List.length_map]
        refine ⟨hlen,fun x hx => ?_,hko⟩
        obtain ⟨s,hs,rfl⟩:=List.mem_map.1 (List.mem_reverse.1 hx)
        exact hd' s hs
      · have:anyEmpty (ss.map rew).reverse=anyEmpty ss:=by
          rw [← hany,Bool.eq_iff_iff,anyEmpty_iff,anyEmpty_iff]; simp
        simp [empty,this]
      · simp only [loops,anyLoops_iff]
        intro x hx
        obtain ⟨s,hs,rfl⟩:=List.mem_map.1 (List.mem_reverse.1 hx)
        exact ⟨hloo s hs,by simp⟩
      · intro t i j
        have:RAlt t (ss.map rew).reverse i j ↔ RAlt t (ss.map rew) i j:=by rw [RAlt_iff,RAlt_iff]; simp
        simp only [R,show ((2:Int)=0)=False by simp,show ((2:Int)=1)=False by simp,if_false,if_true,this,halt]
    rw [if_neg h2]
    refine ⟨⟨d'+1,?_⟩,?_,?_,?_⟩
    · simp only [good,Bool.and_eq_true,List.all_eq_true,decide_eq_true_eq,List.length_map]
      refine ⟨hlen,fun x hx => ?_,hko⟩
      obtain ⟨s,hs,rfl⟩:=List.mem_map.1 hx
      exact hd' s hs
    · simp only [empty,hall,hany]
    · simp only [loops,anyLoops_iff]
      intro x hx
      obtain ⟨s,hs,rfl⟩:=List.mem_map.1 hx
      exact ⟨hloo s hs,fun ho=>by rw [hemp s hs]; exact (hls s hs).2 ho⟩
    · intro t i j
      have hrow:∀ (l:List Ex),(∀ s ∈ l,∀ i j,R t (rew s) i j ↔ R t s i j)→∀ i j,RRow t (l.map rew) i j ↔ RRow t l i j:=by
        intro l
        induction l with
        | nil=>intro _ i j; simp [RRow]
        | cons x l ihl =>
          intro h i j
          simp only [List.map_cons,RRow,h x (by simp),ihl fun s hs=>h s (by simp [hs])]
      have hm:∀ k l,Many (fun i j=>RAlt t (ss.map rew) i j) k l ↔ Many (fun i j=>RAlt t ss i j) k l:=fun k l =>
        ⟨many_congr fun i j h=>(halt t i j).1 h,many_congr fun i j h=>(halt t i j).2 h⟩
      simp only [R,if_neg h2,if_neg h5,hrow ss (fun s hs=>hR s hs t),halt t]
      by_cases h0:op=0
      · simp only [if_pos h0]
      by_cases h1:op=1
      · simp only [if_pos h1,if_neg h0]
      by_cases h3:op=3
      · simp only [if_pos h3,if_neg h0,if_neg h1]; exact hm i j
      · simp only [if_neg h3,if_neg h0,if_neg h1]
        constructor
        · rintro ⟨k,g1,g2⟩; exact ⟨k,g1,(hm k j).1 g2⟩
        · rintro ⟨k,g1,g2⟩; exact ⟨k,g1,(hm k j).2 g2⟩
end
theorem mt_rew {rules:List Ex} (hg:GoodR rules) {t:List Nat} {r i j:Nat} : Mt (rules.map rew) t r i j ↔ Mt rules t r i j:=by
  constructor
  · rintro ⟨e,he,h⟩
    rw [List.getElem?_map] at he
    obtain ⟨x,hx,rfl⟩:=Option.map_eq_some_iff.1 he
    obtain ⟨⟨d,hd⟩,_,hl⟩:=hg x (List.mem_of_getElem? hx)
    exact ⟨x,hx,((rew_all x d hd hl).2.2.2 t i j).1 h⟩
  · rintro ⟨x,hx,h⟩
    obtain ⟨⟨d,hd⟩,_,hl⟩:=hg x (List.mem_of_getElem? hx)
    exact ⟨rew x,by rw [List.getElem?_map,hx]; rfl,((rew_all x d hd hl).2.2.2 t i j).2 h⟩
theorem allR_congr {rules rules':List Ex} {t:List Nat} (hm:∀ r i j,Mt rules' t r i j ↔ Mt rules t r i j) {i:Nat} {l:List Tok} {f:Int} (h:AllR rules t i l f):AllR rules' t i l f:=by
  induction h with
  | done h=>exact .done h
  | fail h hn=>exact .fail h fun r j h'=>hn r j ((hm _ _ _).1 h')
  | step h1 h2 h3 h4 h5 h6 h7 _ ih=>exact .step h1 h2 h3 h4 h5 h6 ⟨(hm _ _ _).2 h7.1,fun r' j' h'=>h7.2.1 _ _ ((hm _ _ _).1 h'),fun r' h'=>h7.2.2 _ ((hm _ _ _).1 h')⟩ ih
theorem goodR_rew {rules:List Ex} (hg:GoodR rules):GoodR (rules.map rew):=by
  intro e he
  obtain ⟨x,hx,rfl⟩:=List.mem_map.1 he
  obtain ⟨⟨d,hd⟩,h1,h2⟩:=hg x hx
  obtain ⟨h3,h4,h5,_⟩:=rew_all x d hd h2
  exact ⟨h3,by rw [h4]; exact h1,h5⟩
theorem sizes_rew:∀ (rules:List Ex) (d:Nat),(∀ e ∈ rules,good d e=true)→sizes (rules.map rew)≤sizes rules * 2 ^ d
  | [],d,_=>by simp [sizes]
  | x::l,d,h=>by
    have h1:=rew_size x d (h x (by simp))
    have h2:=sizes_rew l d fun e he=>h e (by simp [he])
    simp only [List.map_cons,sizes,Nat.add_mul]
    omega
end Lx
end
section
namespace Go.Proofs.YtbcngfgemjdllaaGreatDoor
open Go.RowKit Go.Own
abbrev E6:=Int × Int × Int × Option Addr × Nat × Nat
def exC (x:E6):List Value:=[.int .i64 x.1,.int .i64 x.2.1,.int .i64 x.2.2.1,.slice x.2.2.2.1 x.2.2.2.2.1 x.2.2.2.2.2]
def exW (x:E6):Value:=exV x.1 x.2.1 x.2.2.1 x.2.2.2.1 x.2.2.2.2.1 x.2.2.2.2.2
def exQ (w:World):List Lx.Ex→List E6→Prop
  | [],[]=>True
  | s::ss,x::xs=>ExV w s (exW x)∧exQ w ss xs
  | _,_=>False
theorem exQ.len {w:World} : ∀ {ss:List Lx.Ex} {Q:List E6},exQ w ss Q→Q.length=ss.length
  | [],[],_=>rfl
  | _::_,_::_,h=>by rw [List.length_cons,List.length_cons,exQ.len h.2]
  | [],_::_,h=>h.elim
  | _::_,[],h=>h.elim
theorem exQ.mono {w w':World} (hb:Below w.heap.size w w'):∀ {ss:List Lx.Ex} {Q:List E6},exQ w ss Q→exQ w' ss Q
  | [],[],_=>trivial
  | _::_,_::_,h=>⟨h.1.mono hb,exQ.mono hb h.2⟩
  | [],_::_,h=>h.elim
  | _::_,[],h=>h.elim
theorem exQ.app {w:World} : ∀ {ss ss':List Lx.Ex} {Q Q':List E6},exQ w ss Q→exQ w ss' Q'→exQ w (ss++ss') (Q++Q')
  | [],_,[],_,_,h=>h
  | _::_,_,_::_,_,h,h'=>⟨h.1,exQ.app h.2 h'⟩
  | [],_,_::_,_,h,_=>h.elim
  | _::_,_,[],_,h,_=>h.elim
theorem exQ.get {w:World} : ∀ {ss:List Lx.Ex} {Q:List E6} {k:Nat} {s:Lx.Ex},exQ w ss Q→ss[k]? = some s→∃ x,Q[k]? = some x∧ExV w s (exW x)
  | s::ss,x::Q,0,s',h,hk=>by
    simp at hk; subst hk
    exact ⟨x,rfl,h.1⟩
  | s::ss,x::Q,k+1,s',h,hk=>by
    obtain ⟨y,h1,h2⟩:=exQ.get (k:=k) (s:=s') h.2 (by simpa using hk)
    exact ⟨y,by simpa using h1,h2⟩
  | [],_,_,_,_,hk=>by simp at hk
  | _::_,[],_,_,h,_=>h.elim
theorem exC_len (Q:List E6):(Q.flatMap exC).length=Q.length * 4:=flat_len (f:=exC) (n:=4) (fun _=>rfl) Q
theorem exC_one (Q:List E6):∀ u ∈ Q.flatMap exC,u.oneCell'=true:=by
  intro u hu
  obtain ⟨x,_,h⟩:=List.mem_flatMap.1 hu
  simp only [exC,List.mem_cons,List.not_mem_nil,or_false] at h
  rcases h with rfl | rfl | rfl | rfl <;> rfl
theorem ex_row {w:World} {g o:Nat} : ∀ {ss:List Lx.Ex} {i:Nat},ExS w ss (some ⟨g,o,none⟩) i→∃ Q,exQ w ss Q∧∀ j u,(Q.flatMap exC)[j]? = some u→w.cell? ⟨g,o+i * 4+j,none⟩=some u
  | [],_,_=>⟨[],trivial,fun j u h=>by simp at h⟩
  | s :: ss, i, h => by
    obtain ⟨⟨g',o',op,a,b,sa,n,c,h0,h1,h2,h3,h4,h5⟩,h6⟩:=h
    injection h0 with h0
    injection h0 with e1 e2 _
    subst e1 e2
    obtain ⟨Q,hq,hc⟩:=ex_row h6
    refine ⟨(op,a,b,sa,n,c)::Q,⟨h5,hq⟩,fun j u hj => ?_⟩
    rw [List.flatMap_cons] at hj
    match j,hj with
    | 0,hj=>simp [exC] at hj; subst hj; exact h1
    | 1,hj=>simp [exC] at hj; subst hj; exact h2
    | 2,hj=>simp [exC] at hj; subst hj; exact h3
    | 3,hj=>simp [exC] at hj; subst hj; exact h4
    | j+4,hj =>
      have:=hc j u (by simpa [exC] using hj)
      rw [show o+i * 4+(j+4)=o+(i+1) * 4+j from by omega]
      exact this
theorem row_ex {w:World} {g:Nat} : ∀ {ss:List Lx.Ex} {Q:List E6} {i:Nat},exQ w ss Q→(∀ j u,(Q.flatMap exC)[j]? = some u→w.cell? ⟨g,i * 4+j,none⟩=some u)→ExS w ss (some ⟨g,0,none⟩) i
  | [],[],_,_,_=>trivial
  | s :: ss, x :: Q, i, h, hc => by
    refine ⟨⟨g,0,x.1,x.2.1,x.2.2.1,x.2.2.2.1,x.2.2.2.2.1,x.2.2.2.2.2,rfl,?_,?_,?_,?_,h.1⟩,row_ex h.2 fun j u hj => ?_⟩
    · rw [Nat.zero_add]; exact hc 0 _ rfl
    · rw [Nat.zero_add]; exact hc 1 _ rfl
    · rw [Nat.zero_add]; exact hc 2 _ rfl
    · rw [Nat.zero_add]; exact hc 3 _ rfl
    · rw [show (i+1) * 4+j=i * 4+(j+4) from by omega]
      exact hc (j+4) u (by rw [List.flatMap_cons]; simpa [exC] using hj)
  | [],_::_,_,h,_=>h.elim
  | _::_,[],_,h,_=>h.elim
theorem row_exS {w:World} {ss:List Lx.Ex} {Q:List E6} {a:Option Addr} (h:exQ w ss Q) (hr:RowAt w a (Q.flatMap exC)):ExS w ss a 0:=by
  cases ss with
  | nil=>trivial
  | cons s ss =>
    cases Q with
    | nil=>exact h.elim
    | cons x Q =>
      obtain ⟨g,rfl,hc⟩:=hr (by simp [exC])
      exact row_ex h fun j u hj=>by rw [Nat.zero_mul,Nat.zero_add]; exact hc j u hj
theorem exC_app (Q:List E6) (o a b:Int) (n c:Nat) (sa:Option Addr):Q.flatMap exC++[.int .i64 o,.int .i64 a,.int .i64 b,.slice sa n c]=(Q++[(o,a,b,sa,n,c)]).flatMap exC:=by rw [List.flatMap_append]; rfl
theorem addr_add2 {g o j:Nat} : (⟨g,o,none⟩:Addr).add j=⟨g,o+j,none⟩:=by unfold Addr.add; split <;> simp_all
end Go.Proofs.YtbcngfgemjdllaaGreatDoor
end
section
namespace Go.Proofs.YtbcngfgemjdllaaGreatDoor
open Go.RowKit Go.Own
variable {B:Nat} {w0 w:World} {r:List HP}
def Cont (h:Hp) (w:World):Prop:=∀ n o,h n=some o→w.heap[n]? = some o
def Fz (P:World→Prop):HP:=fun h=>∀ w,Cont h w→P w
theorem cont_or1 {a c:Hp} {w:World} (h:Cont (Hp.or a c) w):Cont a w:=fun n o e=>h n o (by unfold Hp.or; rw [e]; rfl)
theorem cont_or2 {a c:Hp} {w:World} (d:Hp.disj a c) (h:Cont (Hp.or a c) w):Cont c w:=fun n o e=>h n o (by
  rcases d n with x | x
  · unfold Hp.or; rw [x,e]; rfl
  · rw [x] at e; cases e)
theorem Fz.get {P:World→Prop} (H:St B w0 (Fz P::r) w):P w:=by
  obtain ⟨a,c,d,e,h,_⟩:=H.own
  refine h w fun n o hn => ?_
  have h2:hpOf B w n=some o:=by rw [e]; unfold Hp.or; rw [hn]; rfl
  unfold hpOf at h2
  split at h2
  · cases h2
  · exact h2
theorem Fz.and {P Q:World→Prop} (H:St B w0 (Fz P::Fz Q::r) w):St B w0 (Fz (fun w=>P w∧Q w)::r) w :=
  (H.join).imp fun h hh w hw=>by
    obtain ⟨a,c,d,e,ha,hc⟩:=hh
    subst e
    exact ⟨ha w (cont_or1 hw),hc w (cont_or2 d hw)⟩
theorem Fz.imp {P Q:World→Prop} (H:St B w0 (Fz P::r) w) (f:∀ w,P w→Q w):St B w0 (Fz Q::r) w:=St.imp H fun _ hh w hw=>f w (hh w hw)
theorem Fz.row {a:Option Addr} {n c sz:Nat} {E:TypeId} {L:List Value} (H:St B w0 (Osl (.slice a n c) E sz n L::r) w):St B w0 (Fz (fun w=>RowAt w a L)::r) w :=
  St.imp H fun h hh w hw hne=>by
    obtain ⟨hl,hh⟩:=hh
    rcases hh with ⟨h1,h2⟩ | ⟨g,cap,cur,h1,h2,h3,h4,h5,h6⟩
    · exact absurd (List.eq_nil_of_length_eq_zero (by rw [hl,h2,Nat.zero_mul])) hne
    · injection h1 with h1
      refine ⟨g,h1,fun j u hj => ?_⟩
      have hb:w.heap[g]? = some (ob E cur):=hw g _ (by rw [h6]; simp)
      rw [(Go.Own.cells_at hb).1]
      rw [← h5,List.getElem?_take] at hj
      split at hj
      · exact hj
      · cases hj
theorem Fz.exS {a:Option Addr} {n c:Nat} {Q:List E6} {ss:List Lx.Ex} (H:St B w0 (Osl (.slice a n c) 28 4 n (Q.flatMap exC)::Fz (fun w=>exQ w ss Q)::r) w):St B w0 (Fz (fun w=>ExS w ss a 0∧RowAt w a (Q.flatMap exC)∧exQ w ss Q)::r) w :=
  Fz.imp (Fz.and (Fz.row H)) fun w h=>⟨row_exS h.2 h.1,h⟩
theorem exQ.of {w:World} : ∀ {ss:List Lx.Ex} {Q:List E6},Q.length=ss.length→(∀ (j:Nat) s x,ss[j]? = some s→Q[j]? = some x→ExV w s (exW x))→exQ w ss Q
  | [],[],_,_=>trivial
  | s::ss,x::Q,hl,h=>⟨h 0 s x rfl rfl,exQ.of (by simpa using hl) fun j s' x' h1 h2=>h (j+1) s' x' (by simpa using h1) (by simpa using h2)⟩
  | [],_::_,hl,_=>by simp at hl
  | _::_,[],hl,_=>by simp at hl
theorem exQ.at {w:World} {ss:List Lx.Ex} {Q:List E6} {j:Nat} {s:Lx.Ex} {x:E6} (h:exQ w ss Q) (h1:ss[j]? = some s) (h2:Q[j]? = some x):ExV w s (exW x):=by
  obtain ⟨y,h3,h4⟩:=h.get h1
  rw [h2] at h3; injection h3 with h3; subst h3; exact h4
theorem Osl.setCell {g n c sz off:Nat} {E:TypeId} {xs:List Value} (H:St B w0 (Osl (.slice (some ⟨g,0,none⟩) n c) E sz n xs::r) w) (v:Value):St B w0 (Osl (.slice (some ⟨g,0,none⟩) n c) E sz n (xs.set off v)::r) (w.setCell ⟨g,off,none⟩ v):=by
  obtain ⟨hl,⟨h,_⟩ | ⟨g',cap,cur,h1,h2,h3,h4,h5,H'⟩⟩:=H.ownCases
  · cases h
  · injection h1 with h1 _ h1c
    injection h1 with h1
    injection h1 with h1 _ _
    subst h1 h1c
    exact (H'.setCell (off:=off) v).imp fun h hh=>⟨by rw [List.length_set]; exact hl,.inr ⟨g,c,cur.set off v,rfl,h2,h3,by rw [List.length_set]; exact h4,by rw [List.take_set,h5],hh⟩⟩
theorem flat_set:∀ (Q:List E6) (k:Nat) (x:E6),k<Q.length→((((Q.flatMap exC).set (k * 4) (.int .i64 x.1)).set (k * 4+1) (.int .i64 x.2.1)).set (k * 4+2) (.int .i64 x.2.2.1)).set (k * 4+3) (.slice x.2.2.2.1 x.2.2.2.2.1 x.2.2.2.2.2)=(Q.set k x).flatMap exC
  | [],_,_,h=>absurd h (by simp)
  | y::Q,0,x,_=>by simp [exC]
  | y::Q,k+1,x,h=>by
    have ih:=flat_set Q k x (by simpa using h)
    rw [List.set_cons_succ,List.flatMap_cons,List.flatMap_cons,← ih]
    have h4:(k+1) * 4=k * 4+4:=by omega
    rw [h4]
    simp [exC,List.set_cons_succ,show k * 4+4+1=k * 4+1+4 from by omega,show k * 4+4+2=k * 4+2+4 from by omega,show k * 4+4+3=k * 4+3+4 from by omega]
end Go.Proofs.YtbcngfgemjdllaaGreatDoor
end
section
namespace Go.Proofs.YtbcngfgemjdllaaGreatDoor
open Go.RowKit Go.Own
variable {B:Nat} {w0 w:World} {r:List HP}
theorem rews_len (ss:List Lx.Ex):(Lx.rews ss).length=ss.length:=by rw [Lx.rews_map,List.length_map]
theorem rews_get {ss:List Lx.Ex} {k:Nat} {s:Lx.Ex} (h:ss[k]? = some s):(Lx.rews ss)[k]? = some (Lx.rew s):=by rw [Lx.rews_map,List.getElem?_map,h]; rfl
theorem rew_4 (a b:Int) (s:Lx.Ex):Lx.rew (.mk 4 a b [s])=.mk 1 0 0 [Lx.rew s,.mk 3 0 0 [Lx.rew s]]:=by simp [Lx.rew,Lx.rews]
theorem rew_5 (a b:Int) (s:Lx.Ex):Lx.rew (.mk 5 a b [s])=.mk 2 0 0 [.mk 1 0 0 [],Lx.rew s]:=by simp [Lx.rew,Lx.rews]
theorem rew_2 (a b:Int) (ss:List Lx.Ex):Lx.rew (.mk 2 a b ss)=.mk 2 a b (Lx.rews ss).reverse:=by simp [Lx.rew]
theorem rew_o {op:Int} (a b:Int) (ss:List Lx.Ex) (h4:op≠4) (h5:op≠5) (h2:op≠2):Lx.rew (.mk op a b ss)=.mk op a b (Lx.rews ss):=by simp [Lx.rew,h4,h5,h2]
def WrRel (w:World) (b1 b2 b3:Nat) (op a b:Int) (vs0:List Value) (subs:List Lx.Ex) (i:Value) (wr:World):Prop :=
  ∃ (k:Nat) (sa:Option Addr) (c:Nat) (Q:List E6),k≤subs.length∧i=.int .i64 k∧Q.length=k ∧
    St w.heap.size w [pts b3 28 [.int .i64 op,.int .i64 a,.int .i64 b,.slice sa k c],Osl (.slice sa k c) 28 4 k (Q.flatMap exC),Fz (fun W=>exQ W ((Lx.rews subs).take k) Q),pts b1 28 vs0,pts b2 28 [.int .i64 0,.int .i64 0,.int .i64 0,.slice none 0 0]] wr
def mixQ (L:List Lx.Ex) (k:Nat) (Q:List E6) (W:World):Prop:=∀ (j:Nat) (x:E6),Q[j]? = some x→∃ s,(if j<k then L.reverse[j]? else L[j]?)=some s∧ExV W s (exW x)
def WrRel2 (w:World) (b1 b2 b3:Nat) (op a b:Int) (vs0:List Value) (subs:List Lx.Ex) (g c:Nat) (i:Value) (wr:World):Prop :=
  ∃ (k:Nat) (Q:List E6),k≤subs.length∧i=.int .i64 k∧Q.length=subs.length ∧
    St w.heap.size w [pts b3 28 [.int .i64 op,.int .i64 a,.int .i64 b,.slice (some ⟨g,0,none⟩) subs.length c],Osl (.slice (some ⟨g,0,none⟩) subs.length c) 28 4 subs.length (Q.flatMap exC),Fz (mixQ (Lx.rews subs) k Q),pts b1 28 vs0,pts b2 28 [.int .i64 0,.int .i64 0,.int .i64 0,.slice none 0 0]] wr
def RwC (e:Lx.Ex):Prop:=∀ (v:Value) (w:World),ExV w e v→Calls Tryz.prog 18 #[v] w fun e' w'=>∃ oq aq bq sq nq cq,e'=.returned (.agg #[.int .i64 oq,.int .i64 aq,.int .i64 bq,.slice sq nq cq])∧St w.heap.size w [Fz (fun W=>ExV W (Lx.rew e) (exV oq aq bq sq nq cq))] w'
theorem mix_set {L:List Lx.Ex} {k:Nat} {Q:List E6} {W:World} {s:Lx.Ex} {x:E6} (h:mixQ L k Q W) (hs:L.reverse[k]? = some s) (hx:ExV W s (exW x)):mixQ L (k+1) (Q.set k x) W:=by
  intro j y hj
  rw [List.getElem?_set] at hj
  by_cases hjk:k=j
  · subst hjk
    rw [if_pos rfl] at hj
    split at hj
    · injection hj with hj; subst hj
      exact ⟨s,by rw [if_pos (by omega)]; exact hs,hx⟩
    · cases hj
  · rw [if_neg hjk] at hj
    obtain ⟨s',h1,h2⟩:=h j y hj
    refine ⟨s',?_,h2⟩
    by_cases hlt:j<k
    · rw [if_pos hlt] at h1; rw [if_pos (by omega)]; exact h1
    · rw [if_neg hlt] at h1; rw [if_neg (by omega)]; exact h1
theorem mix_end {L:List Lx.Ex} {k:Nat} {Q:List E6} {W:World} (h:mixQ L k Q W) (hk:L.length≤k) (hl:Q.length=L.length):exQ W L.reverse Q:=by
  refine exQ.of (by rw [hl,List.length_reverse]) fun j s x h1 h2 => ?_
  obtain ⟨s',h3,h4⟩:=h j x h2
  have hj:=(List.getElem?_eq_some_iff.1 h2).1
  rw [if_pos (by omega),h1] at h3
  injection h3 with h3; subst h3; exact h4
theorem mix_0 {L:List Lx.Ex} {Q:List E6} {W:World} (h:exQ W L Q):mixQ L 0 Q W:=by
  intro j x hj
  have hlt:=(List.getElem?_eq_some_iff.1 hj).1
  have hl:=h.len
  refine ⟨L[j],by rw [if_neg (by omega)]; exact List.getElem?_eq_getElem (by omega),h.at (List.getElem?_eq_getElem (by omega)) hj⟩
theorem osl_cell {g n c sz:Nat} {E:TypeId} {xs:List Value} (H:St B w0 (Osl (.slice (some ⟨g,0,none⟩) n c) E sz n xs::r) w):(∀ j u,xs[j]? = some u→w.cell? ⟨g,j,none⟩=some u)∧∀ o,w.frozen? ⟨g,o,none⟩=false:=by
  rcases H.ownCell with ⟨h,_⟩ | ⟨g',cap,hv,_,h1,h2⟩
  · cases h
  · injection hv with hv
    injection hv with hv
    injection hv with hv
    subst hv
    exact ⟨h1,h2⟩
theorem rw4_end {W:World} {a b:Int} {subs:List Lx.Ex} (hl:subs.length=1) {g n:Option Addr} {c:Nat} {Q:List E6} {x:E6} (hx:Q[0]? = some x) {L:List Value}
    (h:(ExS W (Lx.rews subs) g 0∧RowAt W g L∧exQ W (Lx.rews subs) Q)∧RowAt W n (exC x++exC (3,0,0,g,subs.length,c))):ExV W (Lx.rew (.mk 4 a b subs)) (exV 1 0 0 n 2 2):=by
  obtain ⟨s,rfl⟩:∃ s,subs=[s]:=by
    match subs,hl with
    | [s],_=>exact ⟨s,rfl⟩
  obtain ⟨⟨h1,_,h2⟩,h3⟩:=h
  rw [rew_4]
  exact ⟨n,2,rfl,row_exS (Q:=[x,(3,0,0,g,1,c)]) ⟨h2.at rfl hx,⟨g,c,rfl,h1⟩,trivial⟩ (by simpa [exC] using h3)⟩
theorem rw5_end {W:World} {a b:Int} {subs:List Lx.Ex} (hl:subs.length=1) {n:Option Addr} {Q:List E6} {x:E6} (hx:Q[0]? = some x)
    (h:exQ W (Lx.rews subs) Q∧RowAt W n (exC (1,0,0,none,0,0)++exC x)):ExV W (Lx.rew (.mk 5 a b subs)) (exV 2 0 0 n 2 2):=by
  obtain ⟨s,rfl⟩:∃ s,subs=[s]:=by
    match subs,hl with
    | [s],_=>exact ⟨s,rfl⟩
  obtain ⟨h2,h3⟩:=h
  rw [rew_5]
  exact ⟨n,2,rfl,row_exS (Q:=[(1,0,0,none,0,0),x]) ⟨⟨none,0,rfl,trivial⟩,h2.at rfl hx,trivial⟩ (by simpa [exC] using h3)⟩
set_option maxRecDepth 100000 in
set_option maxHeartbeats 8000000 in
theorem c18 : ∀ (e : Lx.Ex) (d : Nat), Lx.good d e = true → RwC e := by
  intro e
  induction e using Lx.Ex.ind with
  | h op a b subs ih =>
    intro d hg v w hv
    obtain ⟨d,rfl,hl,hs,hkd⟩:=good_sub hg
    obtain ⟨sa,c,rfl,hS⟩:=hv
    have HS:=Lib.hid hS
    have HK:=Lib.hid hkd
    have H0:=((((St.nil w).alloc (ob 28 [.int .i64 op,.int .i64 a,.int .i64 b,.slice sa subs.length c])).alloc (ob 28 [.int .i64 0,.int .i64 0,.int .i64 0,.slice none 0 0])).alloc (ob 28 [.int .i64 op,.int .i64 a,.int .i64 b,.slice none 0 0]))
    have hsz:(w.alloc (ob 28 [.int .i64 op,.int .i64 a,.int .i64 b,.slice sa subs.length c])).heap.size=w.heap.size+1:=Array.size_push _
    have hsz2:((w.alloc (ob 28 [.int .i64 op,.int .i64 a,.int .i64 b,.slice sa subs.length c])).alloc (ob 28 [.int .i64 0,.int .i64 0,.int .i64 0,.slice none 0 0])).heap.size=w.heap.size+1+1:=by
      show (Array.push _ _).size=_
      rw [Array.size_push,hsz]
    rw [hsz,hsz2] at H0
    have H00:=Lib.hid H0
    have ih':∀ s ∈ subs,RwC s:=fun s hm=>ih s hm d (hs s hm)
    unfold exV
    clear hS H0 hsz hsz2 ih hs hkd hg
    go_enter Tryz.func18,Tryz.ntmps18
    go_wp2_with fail
    go_loopw [17] (WrRel w w.heap.size (w.heap.size+1) (w.heap.size+1+1) op a b [.int .i64 op,.int .i64 a,.int .i64 b,.slice sa subs.length c] subs) (fun i _=>subs.length - (intOf i).toNat)
    case atStart =>
      refine ⟨0,none,0,[],Nat.zero_le _,rfl,rfl,?_⟩
      have H3:=St.ownNil (H00.out.nilStars) 28 4
      have H4:St w.heap.size w (Fz (fun W=>exQ W ((Lx.rews subs).take 0) [])::_) _:=(H3.pick 1).imp fun _ _ _ _=>by rw [List.take_zero]; trivial
      exact ((H4.pick 1).pick 2).perm ((((List.Perm.refl _).cons _).cons _).trans ((((List.Perm.swap _ _ _).cons _).cons _).cons _))
    case round =>
      obtain ⟨k,sa1,c1,Q,hk,rfl,hvl,H1⟩:=hrel
      by_cases hlt:k<subs.length
      · obtain ⟨g,o,op',a',b',sa',n',c',rfl,hat⟩:=HS.out.get0 (List.getElem?_eq_getElem hlt)
        have hat:=hat.mono H1.below
        have hk0:(0:Int)≤(k:Int):=Int.natCast_nonneg _
        have hk1:(k:Int)<(subs.length:Int):=by omega
        have e0:=hat.c0
        have e1:=hat.c1
        have e2:=hat.c2
        have e3:=hat.c3
        have h22:=fun W h=>ih' subs[k] (List.getElem_mem hlt) _ W (hat.v.mono h)
        have hw:=wrapS hlt (by omega)
        have Hw:=Lib.hid hw
        have HB:=Lib.hid ((((St.nil wr).alloc (ob 28 [.int .i64 op',.int .i64 a',.int .i64 b',.slice sa' n' c'])).drew).below)
        have H2:=(H1.alloc (ob 28 [.int .i64 op',.int .i64 a',.int .i64 b',.slice sa' n' c']))
        have q1:=(H2.pick 1).cells.1 3
        have q2:=H2.cells.1
        have q20:=q2 0
        have q21:=q2 1
        have q22:=q2 2
        have q23:=q2 3
        have H22:=Lib.hid H2.drew
        have Hih:=Lib.hid h22
        have Hsub:=Lib.hid (show (Lx.rews subs)[k]? = some (Lx.rew subs[k]) from rews_get (List.getElem?_eq_getElem hlt))
        have Hvl:=Lib.hid hvl
        clear hw hat q2 H2 h22 hvl H1
        generalize subs[k]=sk at Hih Hsub
        have hS0:(wr.alloc (.cells #[.int .i64 op',.int .i64 a',.int .i64 b',.slice sa' n' c'] 28)).drew.cell? ⟨w.heap.size+1+1,3,none⟩=some (.slice sa1 k c1):=(H22.out.pick 1).cells.1 3
        have hd0:(wr.alloc (.cells #[.int .i64 op',.int .i64 a',.int .i64 b',.slice sa' n' c'] 28)).drew.cell? ⟨wr.heap.size,0,none⟩=some (.int .i64 op'):=H22.out.cells.1 0
        have hd1:(wr.alloc (.cells #[.int .i64 op',.int .i64 a',.int .i64 b',.slice sa' n' c'] 28)).drew.cell? ⟨wr.heap.size,1,none⟩=some (.int .i64 a'):=H22.out.cells.1 1
        have hd2:(wr.alloc (.cells #[.int .i64 op',.int .i64 a',.int .i64 b',.slice sa' n' c'] 28)).drew.cell? ⟨wr.heap.size,2,none⟩=some (.int .i64 b'):=H22.out.cells.1 2
        have hd3:(wr.alloc (.cells #[.int .i64 op',.int .i64 a',.int .i64 b',.slice sa' n' c'] 28)).drew.cell? ⟨wr.heap.size,3,none⟩=some (.slice sa' n' c'):=H22.out.cells.1 3
        go_wp2_with fail
        go_region_law
          (first
            | (go_simp; go_at_call 18; refine (Hih.out _ (by exact HB.out)).mono ?_; rintro e w1 ⟨oq,aq,bq,sq,nq,cq,rfl,h2⟩
               have H3:=H22.out.over_base h2
               have H4:=H3.alloc (ob 28 [.int .i64 oq,.int .i64 aq,.int .i64 bq,.slice sq nq cq])
               have hS1:w1.cell? ⟨w.heap.size+1+1,3,none⟩=some (.slice sa1 k c1):=(H3.pick 2).cells.1 3
               have hS2:(w1.alloc (.cells #[.int .i64 oq,.int .i64 aq,.int .i64 bq,.slice sq nq cq] 28)).cell? ⟨w.heap.size+1+1,3,none⟩=some (.slice sa1 k c1):=(H4.pick 3).cells.1 3
               clear h2)
            | (refine step_append1_st rfl _ _ rfl sl23 (g:=w1.heap.size) (news:=[.int .i64 oq,.int .i64 aq,.int .i64 bq,.slice sq nq cq]) ((H4.pick 4).pick 1) rfl 1 rfl rfl rfl (by simp [Value.oneCell']) (by simp only [maxLen]; omega) (by omega) ?_
               intro a5 c5 w5 H5
               have hfs:=(H5.pick 3).cells.2 3
               have hcs:=(H5.pick 3).cells.1 3
               have H6:=(H5.pick 3).setCell (off:=3) (.slice a5 (k+1) c5)))
        all_goals
          have H7:=Fz.and ((((H6.pick 3).drop.pick 3).pick 3))
          have htk:(Lx.rews subs).take k++[Lx.rew sk]=(Lx.rews subs).take (k+1):=by rw [List.take_add_one,Hsub.out]; rfl
          have H8:St w.heap.size w (Fz (fun W=>exQ W ((Lx.rews subs).take (k+1)) (Q++[(oq,aq,bq,sq,nq,cq)]))::_) _:=Fz.imp H7 fun W hW=>by rw [← htk]; exact hW.2.app ⟨hW.1,trivial⟩
          have H9:=(H8.pick 2).pick 2
          rw [exC_app] at H9
          clear H6 H5 H4 H3 hfs hcs H7 H8 htk
          go_wp2_with fail
          first | rw [Hw.out] | rw [show ((k:Int)+1)=((k+1:Nat):Int) from by omega]
          exact ⟨⟨k+1,a5,c5,Q++[(oq,aq,bq,sq,nq,cq)],hlt,rfl,by simp [Hvl.out],H9⟩,measS hlt⟩
      · have hk1 : ¬ (k : Int) < (subs.length : Int) := by omega
        have hkl:k=subs.length:=by omega
        subst hkl
        rw [show (Lx.rews subs).take subs.length=Lx.rews subs from List.take_of_length_le (by rw [rews_len]; exact Nat.le_refl _)] at H1
        have t0:=H1.cells.1 0
        have t1:=H1.cells.1 1
        have t2:=H1.cells.1 2
        have t3:=H1.cells.1 3
        have H2:=(H1.pick 4)
        have z0:=H2.cells.1 0
        have z1:=H2.cells.1 1
        have z2:=H2.cells.1 2
        have z3:=H2.cells.1 3
        have zf:=H2.cells.2
        have y0:=(H1.pick 3).cells.1 0
        simp only [List.getElem?_cons_zero,List.getElem?_cons_succ] at t0 t1 t2 t3 z0 z1 z2 z3 y0
        by_cases h4:op=4
        · subst h4
          have hl1:subs.length=1:=by have h:=HK.out; simpa [Lx.kindOk] using h
          rcases (H1.pick 1).ownCell with ⟨_,hz,_⟩ | ⟨g,cap,hv,hgB,hcs,hfz⟩
          · exact absurd hz (by omega)
          · injection hv with hv _ hv2
            subst hv hv2
            obtain ⟨⟨x0,x1,x2,xa,xn,xc⟩,hx⟩:∃ x,Q[0]? = some x:=⟨_,List.getElem?_eq_getElem (by omega)⟩
            have hfl:=fun t ht=>flatN (f:=exC) (n:=4) (fun _=>rfl) hx (t:=t) ht
            have a0:wr.cell? ⟨g,0,none⟩=some (.int .i64 x0):=hcs 0 _ (hfl 0 (by omega))
            have a1:wr.cell? ⟨g,1,none⟩=some (.int .i64 x1):=hcs 1 _ (hfl 1 (by omega))
            have a2:wr.cell? ⟨g,2,none⟩=some (.int .i64 x2):=hcs 2 _ (hfl 2 (by omega))
            have a3:wr.cell? ⟨g,3,none⟩=some (.slice xa xn xc):=hcs 3 _ (hfl 3 (by omega))
            have i0:0<subs.length:=by omega
            have Ha0:St w.heap.size w (pto wr.heap.size (ob 28 [.int .i64 x0,.int .i64 x1,.int .i64 x2,.slice xa xn xc,.int .i64 3,.int .i64 0,.int .i64 0,.slice (some ⟨g,0,none⟩) subs.length c1])::_) (wr.alloc (.cells #[.int .i64 x0,.int .i64 x1,.int .i64 x2,.slice xa xn xc,.int .i64 3,.int .i64 0,.int .i64 0,.slice (some ⟨g,0,none⟩) subs.length c1] 28)):=H1.alloc (ob 28 [.int .i64 x0,.int .i64 x1,.int .i64 x2,.slice xa xn xc,.int .i64 3,.int .i64 0,.int .i64 0,.slice (some ⟨g,0,none⟩) subs.length c1])
            have b0:(wr.alloc (.cells #[.int .i64 x0,.int .i64 x1,.int .i64 x2,.slice xa xn xc,.int .i64 3,.int .i64 0,.int .i64 0,.slice (some ⟨g,0,none⟩) subs.length c1] 28)).cell? ⟨w.heap.size+1,0,none⟩=some (.int .i64 0):=(Ha0.pick 5).cells.1 0
            have b1:(wr.alloc (.cells #[.int .i64 x0,.int .i64 x1,.int .i64 x2,.slice xa xn xc,.int .i64 3,.int .i64 0,.int .i64 0,.slice (some ⟨g,0,none⟩) subs.length c1] 28)).cell? ⟨w.heap.size+1,1,none⟩=some (.int .i64 0):=(Ha0.pick 5).cells.1 1
            have b2:(wr.alloc (.cells #[.int .i64 x0,.int .i64 x1,.int .i64 x2,.slice xa xn xc,.int .i64 3,.int .i64 0,.int .i64 0,.slice (some ⟨g,0,none⟩) subs.length c1] 28)).cell? ⟨w.heap.size+1,2,none⟩=some (.int .i64 0):=(Ha0.pick 5).cells.1 2
            have b3:(wr.alloc (.cells #[.int .i64 x0,.int .i64 x1,.int .i64 x2,.slice xa xn xc,.int .i64 3,.int .i64 0,.int .i64 0,.slice (some ⟨g,0,none⟩) subs.length c1] 28)).cell? ⟨w.heap.size+1,3,none⟩=some (.slice none 0 0):=(Ha0.pick 5).cells.1 3
            have bf:∀ o,(wr.alloc (.cells #[.int .i64 x0,.int .i64 x1,.int .i64 x2,.slice xa xn xc,.int .i64 3,.int .i64 0,.int .i64 0,.slice (some ⟨g,0,none⟩) subs.length c1] 28)).frozen? ⟨w.heap.size+1,o,none⟩=false:=(Ha0.pick 5).cells.2
            have HH:=Lib.hid (And.intro (Ha0.pick 5) (And.intro hx hl1))
            clear H1 H2 Ha0 hcs hfz hfl hx hvl hl1
            go_wp2_with fail
            go_region_law fail
            all_goals
              have H6:=((((HH.out.1.setCell (off:=0) (.int .i64 1)).setCell (off:=1) (.int .i64 0)).setCell (off:=2) (.int .i64 0)).setCell (off:=3) (.slice (some ⟨wr.heap.size,0,none⟩) 2 2)).drew
              have q0:=H6.cells.1 0
              have q1:=H6.cells.1 1
              have q2:=H6.cells.1 2
              have q3:=H6.cells.1 3
              simp only [List.set_cons_zero,List.set_cons_succ,List.getElem?_cons_zero,List.getElem?_cons_succ] at q0 q1 q2 q3
              have H7:=Fz.row (St.ownFull (m:=2) (sz:=4) H6.drop rfl (by simp [maxLen]))
              have H8:=Fz.and (Fz.exS ((H7.pick 3).pick 3))
              have H9:St w.heap.size w (Fz (fun W=>ExV W (Lx.rew (.mk 4 a b subs)) (exV 1 0 0 (some ⟨wr.heap.size,0,none⟩) 2 2))::_) _:=Fz.imp H8 fun W hW=>rw4_end (c:=c1) HH.out.2.2 HH.out.2.1 hW
              have HE:=Lib.hid ((H9.pick 2).drop.pick 1).drop
              clear H6 H7 H8 H9 HH
              go_wp2_with fail
              refine bodyPost_ret (v:=.agg #[.int .i64 1,.int .i64 0,.int .i64 0,.slice (some ⟨wr.heap.size,0,none⟩) 2 2]) ?_ rfl ⟨1,0,0,some ⟨wr.heap.size,0,none⟩,2,2,rfl,HE.out⟩
              clear HE
              generalize (World.drew _)=W at q0 q1 q2 q3 ⊢
              simp [results,Tryz.results18,go_sem,q0,q1,q2,q3]
        · by_cases h5 : op = 5
          · subst h5
            have hl1:subs.length=1:=by have h:=HK.out; simpa [Lx.kindOk] using h
            rcases (H1.pick 1).ownCell with ⟨_,hz,_⟩ | ⟨g,cap,hv,hgB,hcs,hfz⟩
            · exact absurd hz (by omega)
            · injection hv with hv _ hv2
              subst hv hv2
              obtain ⟨⟨x0,x1,x2,xa,xn,xc⟩,hx⟩:∃ x,Q[0]? = some x:=⟨_,List.getElem?_eq_getElem (by omega)⟩
              have hfl:=fun t ht=>flatN (f:=exC) (n:=4) (fun _=>rfl) hx (t:=t) ht
              have a0:wr.cell? ⟨g,0,none⟩=some (.int .i64 x0):=hcs 0 _ (hfl 0 (by omega))
              have a1:wr.cell? ⟨g,1,none⟩=some (.int .i64 x1):=hcs 1 _ (hfl 1 (by omega))
              have a2:wr.cell? ⟨g,2,none⟩=some (.int .i64 x2):=hcs 2 _ (hfl 2 (by omega))
              have a3:wr.cell? ⟨g,3,none⟩=some (.slice xa xn xc):=hcs 3 _ (hfl 3 (by omega))
              have i0:0<subs.length:=by omega
              have Ha0:St w.heap.size w (pto wr.heap.size (ob 28 [.int .i64 1,.int .i64 0,.int .i64 0,.slice none 0 0,.int .i64 x0,.int .i64 x1,.int .i64 x2,.slice xa xn xc])::_) (wr.alloc (.cells #[.int .i64 1,.int .i64 0,.int .i64 0,.slice none 0 0,.int .i64 x0,.int .i64 x1,.int .i64 x2,.slice xa xn xc] 28)):=H1.alloc (ob 28 [.int .i64 1,.int .i64 0,.int .i64 0,.slice none 0 0,.int .i64 x0,.int .i64 x1,.int .i64 x2,.slice xa xn xc])
              have b0:(wr.alloc (.cells #[.int .i64 1,.int .i64 0,.int .i64 0,.slice none 0 0,.int .i64 x0,.int .i64 x1,.int .i64 x2,.slice xa xn xc] 28)).cell? ⟨w.heap.size+1,0,none⟩=some (.int .i64 0):=(Ha0.pick 5).cells.1 0
              have b1:(wr.alloc (.cells #[.int .i64 1,.int .i64 0,.int .i64 0,.slice none 0 0,.int .i64 x0,.int .i64 x1,.int .i64 x2,.slice xa xn xc] 28)).cell? ⟨w.heap.size+1,1,none⟩=some (.int .i64 0):=(Ha0.pick 5).cells.1 1
              have b2:(wr.alloc (.cells #[.int .i64 1,.int .i64 0,.int .i64 0,.slice none 0 0,.int .i64 x0,.int .i64 x1,.int .i64 x2,.slice xa xn xc] 28)).cell? ⟨w.heap.size+1,2,none⟩=some (.int .i64 0):=(Ha0.pick 5).cells.1 2
              have b3:(wr.alloc (.cells #[.int .i64 1,.int .i64 0,.int .i64 0,.slice none 0 0,.int .i64 x0,.int .i64 x1,.int .i64 x2,.slice xa xn xc] 28)).cell? ⟨w.heap.size+1,3,none⟩=some (.slice none 0 0):=(Ha0.pick 5).cells.1 3
              have bf:∀ o,(wr.alloc (.cells #[.int .i64 1,.int .i64 0,.int .i64 0,.slice none 0 0,.int .i64 x0,.int .i64 x1,.int .i64 x2,.slice xa xn xc] 28)).frozen? ⟨w.heap.size+1,o,none⟩=false:=(Ha0.pick 5).cells.2
              have HH:=Lib.hid (And.intro (Ha0.pick 5) (And.intro hx hl1))
              clear H1 H2 Ha0 hcs hfz hfl hx hvl hl1
              go_wp2_with fail
              all_goals
                have H6:=((((HH.out.1.setCell (off:=0) (.int .i64 2)).setCell (off:=1) (.int .i64 0)).setCell (off:=2) (.int .i64 0)).setCell (off:=3) (.slice (some ⟨wr.heap.size,0,none⟩) 2 2))
                have q0:=H6.cells.1 0
                have q1:=H6.cells.1 1
                have q2:=H6.cells.1 2
                have q3:=H6.cells.1 3
                simp only [List.set_cons_zero,List.set_cons_succ,List.getElem?_cons_zero,List.getElem?_cons_succ] at q0 q1 q2 q3
                have H7:=Fz.row (St.ownFull (m:=2) (sz:=4) H6.drop rfl (by simp [maxLen]))
                have H8:=Fz.and (H7.pick 3)
                have H9:St w.heap.size w (Fz (fun W=>ExV W (Lx.rew (.mk 5 a b subs)) (exV 2 0 0 (some ⟨wr.heap.size,0,none⟩) 2 2))::_) _:=Fz.imp H8 fun W hW=>rw5_end HH.out.2.2 HH.out.2.1 hW
                have HE:=Lib.hid (((H9.pick 3).drop.pick 2).drop.pick 1).drop
                clear H6 H7 H8 H9 HH
                refine bodyPost_ret (v:=.agg #[.int .i64 2,.int .i64 0,.int .i64 0,.slice (some ⟨wr.heap.size,0,none⟩) 2 2]) ?_ rfl ⟨2,0,0,some ⟨wr.heap.size,0,none⟩,2,2,rfl,HE.out⟩
                clear HE
                generalize (World.setCell _ _ _)=W at q0 q1 q2 q3 ⊢
                simp [results,Tryz.results18,go_sem,q0,q1,q2,q3]
          · by_cases h2 : op = 2
            · subst h2
              have hl0:0<subs.length:=by have h:=HK.out; simpa [Lx.kindOk] using h
              rcases (H1.pick 1).ownCell with ⟨_,hz,_⟩ | ⟨g,cap,hv,hgB,_,_⟩
              · exact absurd hz (by omega)
              · injection hv with hv _ hv2
                subst hv hv2
                have H3:St w.heap.size w (Fz (mixQ (Lx.rews subs) 0 Q)::_) wr:=Fz.imp (H1.pick 2) fun W hW=>mix_0 hW
                have HL:=Lib.hid (And.intro ((H3.pick 2).pick 2) hvl)
                have f4:((2:Int) == 4)=false:=rfl
                clear H1 H2 H3 hvl h4 h5 z0 z1 z2 z3 zf t0 t1 t2
                go_wp2_with fail
                clear t3 y0
                go_loopw [56] (WrRel2 w w.heap.size (w.heap.size+1) (w.heap.size+1+1) 2 a b [.int .i64 2,.int .i64 a,.int .i64 b,.slice sa subs.length c] subs g c1) (fun i _=>subs.length - (intOf i).toNat)
                case atStart=>exact ⟨0,Q,Nat.zero_le _,rfl,HL.out.2,HL.out.1⟩
                case round =>
                  obtain ⟨k,Q2,hk2,rfl,hvl2,H3⟩:=hrel
                  clear HL
                  by_cases hlt2:k<subs.length
                  · obtain ⟨n1,hn1⟩:∃ n1,n1+1=subs.length:=⟨subs.length - 1,by omega⟩
                    obtain ⟨m,hm⟩:∃ m,m+k=n1:=⟨n1 - k,by omega⟩
                    have hw1:wrap64 ((subs.length:Int) - 1)=(n1:Int):=by rw [IntWalk.wrap64_in _ (by omega)]; omega
                    have hw2:wrap64 ((n1:Int) - (k:Int))=(m:Int):=by rw [IntWalk.wrap64_in _ (by omega)]; omega
                    have hw3:IntKind.i64.wrap ((subs.length:Int) - 1)=(n1:Int):=(IntWalk.i64_left _).trans hw1
                    have hw4:IntKind.i64.wrap ((n1:Int) - (k:Int))=(m:Int):=(IntWalk.i64_left _).trans hw2
                    have hmlt:m<subs.length:=by omega
                    obtain ⟨gs,o,op',a',b',sa',n',c',rfl,hat⟩:=HS.out.get0 (List.getElem?_eq_getElem hmlt)
                    have hat:=hat.mono H3.below
                    have hk0:(0:Int)≤(k:Int):=Int.natCast_nonneg _
                    have hk1:(k:Int)<(subs.length:Int):=by omega
                    have hm0:(0:Int)≤(m:Int):=Int.natCast_nonneg _
                    have hm1:(m:Int)<(subs.length:Int):=by omega
                    have e0:=hat.c0
                    have e1:=hat.c1
                    have e2:=hat.c2
                    have e3:=hat.c3
                    have h18:=fun W h=>ih' subs[m] (List.getElem_mem hmlt) _ W (hat.v.mono h)
                    have Hw:=Lib.hid (wrapS hlt2 (by omega))
                    have HB:=Lib.hid (((St.nil wr).drew).below)
                    have Hih:=Lib.hid h18
                    have Hsub:=Lib.hid (show (Lx.rews subs).reverse[k]? = some (Lx.rew subs[m]) from by
                      rw [List.getElem?_reverse (by rw [rews_len]; exact hlt2),rews_len,show subs.length - 1 - k=m from by omega]; exact rews_get (List.getElem?_eq_getElem hmlt))
                    have s3:=H3.cells.1 3
                    have y3:=(H3.pick 3).cells.1 3
                    simp only [List.getElem?_cons_zero,List.getElem?_cons_succ] at s3 y3
                    obtain ⟨⟨y0,y1,y2,ya,yn,yc⟩,hy⟩:∃ y,Q2[k]? = some y:=⟨_,List.getElem?_eq_getElem (by omega)⟩
                    have HF:=Lib.hid (fun t ht=>flatN (f:=exC) (n:=4) (fun _=>rfl) hy (t:=t) ht)
                    have H33:=Lib.hid (And.intro H3.drew (And.intro hvl2 hlt2))
                    clear hat h18 hy H3 hn1 hm hvl2
                    generalize subs[m]=sk at Hih Hsub
                    go_wp2_with fail
                    go_region_law
                      (first
                        | (go_simp; go_at_call 18; refine (Hih.out _ (by exact HB.out)).mono ?_; rintro e w1 ⟨oq,aq,bq,sq,nq,cq,rfl,h2⟩
                           have H4:=H33.out.1.over_base h2
                           have s3':w1.cell? ⟨w.heap.size+1+1,3,none⟩=some (.slice (some ⟨g,0,none⟩) subs.length c1):=(H4.pick 1).cells.1 3
                           have u:=osl_cell (H4.pick 2)
                           have u0:w1.cell? ⟨g,k * 4,none⟩=some (.int .i64 y0):=u.1 _ _ (HF.out 0 (by omega))
                           have u1:w1.cell? ⟨g,k * 4+1,none⟩=some (.int .i64 y1):=u.1 _ _ (HF.out 1 (by omega))
                           have u2:w1.cell? ⟨g,k * 4+2,none⟩=some (.int .i64 y2):=u.1 _ _ (HF.out 2 (by omega))
                           have u3:w1.cell? ⟨g,k * 4+3,none⟩=some (.slice ya yn yc):=u.1 _ _ (HF.out 3 (by omega))
                           have uf:=u.2
                           have HH4:=Lib.hid H4
                           clear h2 u H4))
                    all_goals
                      have H5:=Osl.setCell (off:=k * 4+3) (Osl.setCell (off:=k * 4+2) (Osl.setCell (off:=k * 4+1) (Osl.setCell (off:=k * 4) (HH4.out.pick 2) (.int .i64 oq)) (.int .i64 aq)) (.int .i64 bq)) (.slice sq nq cq)
                      rw [flat_set Q2 k (oq,aq,bq,sq,nq,cq) (by have:=H33.out.2; omega)] at H5
                      have H7:=Fz.and ((H5.pick 3).pick 2)
                      have H8:St w.heap.size w (Fz (mixQ (Lx.rews subs) (k+1) (Q2.set k (oq,aq,bq,sq,nq,cq)))::_) _:=Fz.imp H7 fun W hW=>mix_set hW.2 Hsub.out hW.1
                      have H9:=Lib.hid ((H8.pick 1).pick 2)
                      clear H5 H7 H8 HH4 u0 u1 u2 u3 uf s3'
                      go_wp2_with fail
                      first | rw [Hw.out] | rw [show ((k:Int)+1)=((k+1:Nat):Int) from by omega]
                      exact ⟨⟨k+1,Q2.set k (oq,aq,bq,sq,nq,cq),hlt2,rfl,by rw [List.length_set]; exact H33.out.2.1,H9.out⟩,measS hlt2⟩
                  · have hk1 : ¬ (k:Int)<(subs.length:Int):=by omega
                    have hke:(Lx.rews subs).length≤k:=by rw [rews_len]; omega
                    have t0:=H3.cells.1 0
                    have t1:=H3.cells.1 1
                    have t2:=H3.cells.1 2
                    have t3:=H3.cells.1 3
                    have H2:=(H3.pick 4)
                    have z0:=H2.cells.1 0
                    have z1:=H2.cells.1 1
                    have z2:=H2.cells.1 2
                    have z3:=H2.cells.1 3
                    have zf:=H2.cells.2
                    simp only [List.getElem?_cons_zero,List.getElem?_cons_succ] at t0 t1 t2 t3 z0 z1 z2 z3
                    have H6:=(((H2.setCell (off:=0) (.int .i64 2)).setCell (off:=1) (.int .i64 a)).setCell (off:=2) (.int .i64 b)).setCell (off:=3) (.slice (some ⟨g,0,none⟩) subs.length c1)
                    have q:=H6.cells.1
                    have q0:=q 0
                    have q1:=q 1
                    have q2:=q 2
                    have q3:=q 3
                    simp only [List.set_cons_zero,List.set_cons_succ,List.getElem?_cons_zero,List.getElem?_cons_succ] at q0 q1 q2 q3
                    have H6b:St w.heap.size w (Fz (fun W=>exQ W (Lx.rews subs).reverse Q2)::_) _:=Fz.imp (H6.drop.drop.pick 1) fun W hW=>mix_end hW hke (by rw [rews_len]; exact hvl2)
                    have H7:=Fz.exS (H6b.pick 1)
                    have H8:St w.heap.size w [Fz (fun W=>ExV W (Lx.rew (.mk 2 a b subs)) (exV 2 a b (some ⟨g,0,none⟩) subs.length c1))] _:=((Fz.imp H7 fun W hW=>by rw [rew_2]; exact ⟨_,c1,by rw [List.length_reverse,rews_len],hW.1⟩).pick 1).drop
                    have H9:=Lib.hid H8
                    clear q H3 H2 H6 H6b H7 H8 ih'
                    go_wp2_with fail
                    refine bodyPost_ret (v:=.agg #[.int .i64 2,.int .i64 a,.int .i64 b,.slice (some ⟨g,0,none⟩) subs.length c1]) ?_ rfl ⟨2,a,b,some ⟨g,0,none⟩,subs.length,c1,rfl,H9.out⟩
                    clear H9
                    generalize (World.setCell _ _ _)=W at q0 q1 q2 q3 ⊢
                    simp [results,Tryz.results18,go_sem,q0,q1,q2,q3]
            · have f4:(op == 4)=false:=beq_eq_false_iff_ne.2 h4
              have f5:(op == 5)=false:=beq_eq_false_iff_ne.2 h5
              have f2:(op == 2)=false:=beq_eq_false_iff_ne.2 h2
              have H6:=(((H2.setCell (off:=0) (.int .i64 op)).setCell (off:=1) (.int .i64 a)).setCell (off:=2) (.int .i64 b)).setCell (off:=3) (.slice sa1 subs.length c1)
              have q:=H6.cells.1
              have q0:=q 0
              have q1:=q 1
              have q2:=q 2
              have q3:=q 3
              simp only [List.set_cons_zero,List.set_cons_succ,List.getElem?_cons_zero,List.getElem?_cons_succ] at q0 q1 q2 q3
              have H7:=Fz.exS (H6.drop.drop)
              have H8:St w.heap.size w [Fz (fun W=>ExV W (Lx.rew (.mk op a b subs)) (exV op a b sa1 subs.length c1))] _:=((Fz.imp H7 fun W hW=>by rw [rew_o a b subs h4 h5 h2]; exact ⟨sa1,c1,by rw [rews_len],hW.1⟩).pick 1).drop
              have H9:=Lib.hid H8
              clear q H1 H2 H6 H7 H8 ih' h4 h5 h2
              go_wp2_with fail
              refine bodyPost_ret (v:=.agg #[.int .i64 op,.int .i64 a,.int .i64 b,.slice sa1 subs.length c1]) ?_ rfl ⟨op,a,b,sa1,subs.length,c1,rfl,H9.out⟩
              clear H9
              generalize (World.setCell _ _ _)=W at q0 q1 q2 q3 ⊢
              simp [results,Tryz.results18,go_sem,q0,q1,q2,q3]
end Go.Proofs.YtbcngfgemjdllaaGreatDoor
end
section
namespace Go.Proofs.YtbcngfgemjdllaaGreatDoor
open Go.RowKit Go.Own
variable {B:Nat} {w0 w:World} {r:List HP}
def LwQ (w:World) (e:Ending) (w':World):Prop:=e=.returned (.bool true)∧Below w.heap.size w w'
theorem gd_of {rs:List Lx.Ex} (h:goodB rs=true):∃ n,GdR rs n:=by
  simp only [goodB,okE,Bool.and_eq_true,List.all_eq_true,decide_eq_true_eq,Bool.not_eq_true'] at h
  obtain ⟨⟨⟨h1,h2⟩,h3⟩,h4⟩:=h
  have hg:Lx.GoodR rs:=fun e he=>⟨⟨5,(h1 e he).1.1⟩,(h1 e he).1.2,(h1 e he).2⟩
  obtain ⟨n,hn⟩:=Lx.nDep hg
  exact ⟨n,hg,(Lx.small_of h3 (fun e he=>⟨(h1 e he).1.1,(h1 e he).2⟩) h4).1,by omega,by omega,by omega,hn⟩
theorem tx_of {s:ByteArray} (h:textB (tx s)=true):(∀ c ∈ tx s,c≤127)∧s.size≤60:=by
  simp only [textB,Bool.and_eq_true,List.all_eq_true,decide_eq_true_eq,tx_len] at h
  exact h
theorem tkV_q5 {ts:List Lx.Tok} : ts.flatMap tkV=(ts.map t5).flatMap q5:=by rw [List.flatMap_map]; rfl
theorem c16x {rs:List Lx.Ex} {sa:Option Addr} {c:Nat} {s:ByteArray} (hl:rs.length≤1000) (hg:Lx.GoodR rs) (hS:ExS w rs sa 0) (hs:s.size<1000000) :
    Calls Tryz.prog 16 #[.slice sa rs.length c,.string s] w fun e' w'=>∃ (X:List T5) (f:Int) (sa':Option Addr) (c':Nat),e'=.returned (.tuple #[.slice sa' X.length c',.int .i64 f])∧(∃ ts,X=ts.map t5∧Lx.AllR rs (tx s) 0 ts f)∧X.length≤s.size∧RowAt w' sa' (X.flatMap q5)∧Below w.heap.size w w':=by
  refine (c16 hl hg hS hs).mono ?_
  rintro e w5 ⟨ts,f,sa2,c2,rfl,hall,htl,h16⟩
  refine ⟨ts.map t5,f,sa2,c2,by rw [List.length_map],⟨ts,rfl,hall⟩,by rw [List.length_map]; exact htl,?_,h16.below⟩
  have hrow:=RowAt.of h16
  rwa [tkV_q5] at hrow
theorem c15x {rules:List Lx.Ex} {n:Nat} (hG:GdR rules n) {sa:Option Addr} {c0:Nat} (hE:ExS w rules sa 0) {s:ByteArray} (ht:∀ c ∈ tx s,c≤127) (hl:s.size≤60) :
    Calls Tryz.prog 15 #[.slice sa rules.length c0,.string s] w fun e w'=>∃ (X:List T5) (f:Int) (a:Option Addr) (c:Nat),e=.returned (.tuple #[.slice a X.length c,.int .i64 f])∧(X=TK rules n (tx s)∧f=(LX rules n (tx s)).2.1)∧X.length≤62∧RowAt w' a (X.flatMap q5)∧Below w.heap.size w w':=by
  have hta:=tx_len s
  refine (c15 hG hE ht hl).mono ?_
  rintro e w5 ⟨a,c,rfl,hrow,hb⟩
  refine ⟨_,_,a,c,rfl,⟨rfl,rfl⟩,?_,hrow,hb⟩
  unfold TK LX
  rw [List.length_map]
  have h1:=List.length_filter_le (fun tk:Lx.Tok=>tk.kind != -1) (Lx.lexF hN hS (Lx.nOut rules) n (Lx.nStop rules) (Lx.nKind rules) (tx s) ((tx s).length+1) dsN 0 1 0).1
  have h2:=lexF_len (h:=hN) (hs:=hS) (out:=Lx.nOut rules) (n:=n) (stop:=Lx.nStop rules) (kindOf:=Lx.nKind rules) (t:=tx s) ((tx s).length+1) dsN 0 1 0
  unfold Lx.noEnd
  omega
end Go.Proofs.YtbcngfgemjdllaaGreatDoor
end
section
namespace Go.Proofs.YtbcngfgemjdllaaGreatDoor
open Go.RowKit Go.Own
variable {B:Nat} {w0 w:World} {r:List HP}
theorem good5_of {rs:List Lx.Ex} (h:goodB rs=true):∀ e ∈ rs,Lx.good 5 e=true:=by
  simp only [goodB,okE,Bool.and_eq_true,List.all_eq_true,decide_eq_true_eq,Bool.not_eq_true'] at h
  exact fun e he=>(h.1.1.1 e he).1.1
theorem gd_rew {rs:List Lx.Ex} (h:goodB rs=true):∃ n,GdR (rs.map Lx.rew) n:=by
  have h5:=good5_of h
  simp only [goodB,okE,Bool.and_eq_true,List.all_eq_true,decide_eq_true_eq,Bool.not_eq_true'] at h
  obtain ⟨⟨⟨h1,h2⟩,h3⟩,h4⟩:=h
  have hg:Lx.GoodR rs:=fun e he=>⟨⟨5,(h1 e he).1.1⟩,(h1 e he).1.2,(h1 e he).2⟩
  have hg2:=Lx.goodR_rew hg
  obtain ⟨n,hn⟩:=Lx.nDep hg2
  have hz:=Lx.sizes_rew rs 5 h5
  exact ⟨n,hg2,(Lx.small_of h3 (fun e he=>⟨(h1 e he).1.1,(h1 e he).2⟩) h4).2,by rw [List.length_map]; omega,by rw [List.length_map]; omega,by omega,hn⟩
def R7 (w:World) (subs:List Lx.Ex) (v i:Value) (wr:World):Prop :=
  ∃ (k:Nat) (sa:Option Addr) (c:Nat) (Q:List E6),k≤subs.length∧v=.slice sa k c∧i=.int .i64 k∧Q.length=k ∧
    St w.heap.size w [Osl (.slice sa k c) 28 4 k (Q.flatMap exC),Fz (fun W=>exQ W ((Lx.rews subs).take k) Q)] wr
set_option maxRecDepth 100000 in
set_option maxHeartbeats 8000000 in
theorem c7 {subs : List Lx.Ex} {sa : Option Addr} {c : Nat} {s : ByteArray} (hS : ExS w subs sa 0) (hLs : LenE.LenS subs) : Calls Tryz.prog 7 #[.slice sa subs.length c, .string s] w (LwQ w) := by
  have HH:=Lib.hid (And.intro hS hLs)
  clear hS hLs
  by_cases h1:subs.length≤2147483647
  · by_cases h2 : s.size ≤ 2147483647
    · have i1 : ¬ (2147483647:Int)<(subs.length:Int):=by omega
      have i2 : ¬ (2147483647:Int)<(s.size:Int):=by omega
      have H11:=Lib.hid (c11 (c:=c) (by omega) HH.out.2 HH.out.1)
      have HL:=Lib.hid (And.intro h1 h2)
      clear h1 h2
      go_enter Tryz.func7,Tryz.ntmps7
      go_wp2_with fail
      go_at_call 11
      refine H11.out.mono ?_
      rintro e w1 ⟨sa1,c1,rfl,hS1,hb1⟩
      obtain ⟨gb,hgb⟩:∃ g,g=goodB subs:=⟨_,rfl⟩
      have h12:=c12 (c:=c1) (by have:=HL.out.1; omega) hS1
      rw [← hgb] at h12
      have H12:=Lib.hid h12
      have HS1:=Lib.hid (And.intro hS1 (And.intro hb1 hgb))
      clear h12 hS1 hb1 hgb H11
      go_wp2_with fail
      go_at_call 12
      refine H12.out.mono ?_
      rintro e w2 ⟨rfl,hb2⟩
      have HB2:=Lib.hid (bl_tr HS1.out.2.1 hb2)
      have HS2:=Lib.hid (HS1.out.1.mono hb2)
      clear hb2 H12
      cases gb with
      | false =>
        go_wp2_with fail
        refine bodyPost_ret (v:=.bool true) ?_ rfl ⟨rfl,HB2.out⟩
        simp [results,Tryz.results7,go_sem]
      | true =>
        obtain ⟨n,hG⟩:=gd_of HS1.out.2.2.symm
        obtain ⟨tb,htb⟩:∃ g,g=textB (tx s):=⟨_,rfl⟩
        have h13:=c13 (s:=s) (w:=w2) (by have:=HL.out.2; omega)
        rw [← htb] at h13
        have H13:=Lib.hid h13
        have HT:=Lib.hid (And.intro htb hG)
        clear h13 htb hG
        go_wp2_with fail
        go_at_call 13
        refine H13.out.mono ?_
        rintro e w3 ⟨rfl,rfl⟩
        clear H13
        cases tb with
        | false =>
          go_wp2_with fail
          refine bodyPost_ret (v:=.bool true) ?_ rfl ⟨rfl,HB2.out⟩
          simp [results,Tryz.results7,go_sem]
        | true =>
          obtain ⟨ht1,ht2⟩:=tx_of HT.out.1.symm
          have HTx:=Lib.hid (And.intro ht1 ht2)
          clear ht1 ht2
          have HG5:=Lib.hid (good5_of HS1.out.2.2.symm)
          obtain ⟨n2,hG2⟩:=gd_rew HS1.out.2.2.symm
          have HG2:=Lib.hid hG2
          have HA0:=Lib.hid (St.ownFull (m:=0) (sz:=4) ((St.nil w3).alloc (ob 28 [])) rfl (by simp [maxLen]))
          clear hG2
          go_wp2_with fail
          go_loopw [6,36] (R7 w3 subs) (fun _ i _=>subs.length - (intOf i).toNat)
          case atStart =>
            refine ⟨0,_,_,[],Nat.zero_le _,rfl,rfl,rfl,?_⟩
            have H4:St w3.heap.size w3 (Fz (fun W=>exQ W ((Lx.rews subs).take 0) [])::_) _:=(HA0.out.nilStars).imp fun _ _ _ _=>by rw [List.take_zero]; trivial
            exact H4.pick 1
          case round =>
            obtain ⟨k,sa3,c3,Q,hk,rfl,rfl,hvl,H1⟩:=hrel
            clear HA0
            by_cases hlt:k<subs.length
            · obtain ⟨g,o,op',a',b',sa',n',c',rfl,hat⟩:=HS2.out.get0 (List.getElem?_eq_getElem hlt)
              have hat:=hat.mono H1.below
              have hk0:(0:Int)≤(k:Int):=Int.natCast_nonneg _
              have hk1:(k:Int)<(subs.length:Int):=by omega
              have e0:=hat.c0
              have e1:=hat.c1
              have e2:=hat.c2
              have e3:=hat.c3
              have Hih:=Lib.hid (fun W h=>c18 subs[k] 5 (HG5.out _ (List.getElem_mem hlt)) _ W (hat.v.mono h))
              have Hw:=Lib.hid (wrapS hlt (by have:=HL.out.1; omega))
              have Hsub:=Lib.hid (show (Lx.rews subs)[k]? = some (Lx.rew subs[k]) from rews_get (List.getElem?_eq_getElem hlt))
              have Hvl:=Lib.hid hvl
              clear hat hvl
              generalize subs[k]=sk at Hih Hsub
              go_wp2_with (first
                | (go_simp; go_at_call 18; refine (Hih.out _ ((St.nil _).alloc _).below).mono ?_; rintro e w4 ⟨oq,aq,bq,sq,nq,cq,rfl,h2⟩
                   have H3:=(H1.alloc (ob 28 [.int .i64 op',.int .i64 a',.int .i64 b',.slice sa' n' c'])).over_base h2
                   have H4:=H3.alloc (ob 28 [.int .i64 oq,.int .i64 aq,.int .i64 bq,.slice sq nq cq])
                   clear h2)
                | (at_builtin; go_must (refine wpList_append1_st rfl _ _ rfl sl23 (g:=w4.heap.size) (news:=[.int .i64 oq,.int .i64 aq,.int .i64 bq,.slice sq nq cq]) ((H4.pick 3).pick 1) rfl 1 rfl rfl rfl (by simp [Value.oneCell']) (by have:=HL.out.1; simp only [maxLen]; omega) (by have:=HL.out.1; omega) ?_)
                   intro a5 c5 w5 H5))
              have H7:=Fz.and ((((H5.pick 2).drop).pick 2).pick 2)
              have htk:(Lx.rews subs).take k++[Lx.rew sk]=(Lx.rews subs).take (k+1):=by rw [List.take_add_one,Hsub.out]; rfl
              have H8:St w3.heap.size w3 (Fz (fun W=>exQ W ((Lx.rews subs).take (k+1)) (Q++[(oq,aq,bq,sq,nq,cq)]))::_) _:=Fz.imp H7 fun W hW=>by rw [← htk]; exact hW.2.app ⟨hW.1,trivial⟩
              have H9:=H8.pick 1
              rw [exC_app] at H9
              first | rw [Hw.out] | rw [show ((k:Int)+1)=((k+1:Nat):Int) from by omega]
              exact ⟨⟨k+1,a5,c5,Q++[(oq,aq,bq,sq,nq,cq)],hlt,rfl,rfl,by simp [Hvl.out],H9⟩,measS hlt⟩
            · have hk1 : ¬ (k:Int)<(subs.length:Int):=by omega
              have hkl:k=subs.length:=by omega
              subst hkl
              rw [show (Lx.rews subs).take subs.length=Lx.rews subs from List.take_of_length_le (by rw [rews_len]; exact Nat.le_refl _)] at H1
              have hE:=(Fz.get (Fz.exS H1)).1
              rw [Lx.rews_map] at hE
              have HE:=Lib.hid hE
              have HB3:=Lib.hid (bl_tr HB2.out H1.below)
              have HS3:=Lib.hid (HS2.out.mono H1.below)
              have hml:subs.length=(subs.map Lx.rew).length:=by rw [List.length_map]
              have Hml:=Lib.hid hml
              clear hE H1 hvl hml HS2 HB2
              generalize wr=wz at HE HB3 HS3 ⊢
              have H14:=Lib.hid (c14 (c0:=c1) HT.out.2 HS3.out HTx.out.1 HTx.out.2)
              go_wp2_with fail
              go_at_call 14
              refine H14.out.mono ?_
              rintro e w4 ⟨ab,rfl,hap,hb4⟩
              have HA:=Lib.hid (And.intro hap (And.intro (bl_tr HB3.out hb4) (And.intro (HS3.out.mono hb4) (HE.out.mono hb4))))
              clear hap hb4 H14 HE HB3 HS3
              cases ab with
              | false =>
                go_wp2_with fail
                refine bodyPost_ret (v:=.bool true) ?_ rfl ⟨rfl,HA.out.2.1⟩
                simp [results,Tryz.results7,go_sem]
              | true =>
                have h14:=c14 (c0:=c3) HG2.out HA.out.2.2.2 HTx.out.1 HTx.out.2
                rw [← Hml.out] at h14
                have H14:=Lib.hid h14
                clear h14
                go_wp2_with fail
                go_at_call 14
                refine H14.out.mono ?_
                rintro e w5 ⟨ab2,rfl,hap2,hb5⟩
                have HA5:=Lib.hid (And.intro hap2 (And.intro (bl_tr HA.out.2.1 hb5) (And.intro (HA.out.2.2.1.mono hb5) (HA.out.2.2.2.mono hb5))))
                have HAP:=Lib.hid (HA.out.1 (by first | trivial | rfl))
                clear hap2 hb5 H14 HA
                cases ab2 with
                | false =>
                  go_wp2_with fail
                  refine bodyPost_ret (v:=.bool true) ?_ rfl ⟨rfl,HA5.out.2.1⟩
                  simp [results,Tryz.results7,go_sem]
                | true =>
                  have HAP2:=Lib.hid (HA5.out.1 (by first | trivial | rfl))
                  have H15:=Lib.hid (c15x (c0:=c1) HT.out.2 HA5.out.2.2.1 HTx.out.1 HTx.out.2)
                  go_wp2_with fail
                  go_at_call 15
                  refine H15.out.mono ?_
                  rintro e w6 ⟨X,f,a6,c6,rfl,hXf,hXl,hrow6,hb6⟩
                  have HX:=Lib.hid (And.intro hXf hXl)
                  have HR6:=Lib.hid (And.intro hrow6 (And.intro (bl_tr HA5.out.2.1 hb6) (And.intro (HA5.out.2.2.1.mono hb6) (HA5.out.2.2.2.mono hb6))))
                  have h15:=c15x (c0:=c3) HG2.out HR6.out.2.2.2 HTx.out.1 HTx.out.2
                  rw [← Hml.out] at h15
                  have H152:=Lib.hid h15
                  clear hXf hXl hrow6 hb6 H15 HA5 h15
                  go_wp2_with fail
                  go_at_call 15
                  refine H152.out.mono ?_
                  rintro e w7 ⟨X2,f2,a7,c7,rfl,hXf2,hXl2,hrow7,hb7⟩
                  have HX2:=Lib.hid (And.intro hXf2 hXl2)
                  have HR7:=Lib.hid (And.intro (HR6.out.1.mono hb7) (And.intro hrow7 (And.intro (bl_tr HR6.out.2.1 hb7) (HR6.out.2.2.1.mono hb7))))
                  have H16:=Lib.hid (c16x (c:=c1) (s:=s) (by have:=HT.out.2.len; omega) HT.out.2.good HR7.out.2.2.2 (by have:=HTx.out.2; omega))
                  clear hXf2 hXl2 hrow7 hb7 H152 HR6
                  go_wp2_with fail
                  go_at_call 16
                  refine H16.out.mono ?_
                  rintro e w8 ⟨Y,f6,sa8,c8,rfl,hall,htl,hrow8,hb8⟩
                  have hXY:(X=Y∧f=f6)∧X2=Y∧f2=f6:=by
                    obtain ⟨ts,rfl,hts⟩:=hall
                    have h:=tk_ok HT.out.2 HAP.out hts
                    have h2:=tk_ok HG2.out HAP2.out (Lx.allR_congr (fun _ _ _=>Lx.mt_rew HT.out.2.good) hts)
                    have h3:=HX.out.1
                    have h4:=HX2.out.1
                    rw [h3.1,h3.2,h4.1,h4.2]; exact ⟨h,h2⟩
                  obtain ⟨⟨rfl,rfl⟩,rfl,rfl⟩:=hXY
                  have HR8:=Lib.hid (And.intro (HR7.out.1.mono hb8) (And.intro (HR7.out.2.1.mono hb8) (bl_tr HR7.out.2.2.1 hb8)))
                  have h17:=(c17 (c:=c6) (d:=c7) HR8.out.1 HR8.out.2.1 (by have:=HX.out.2; omega)).mono (fun e w' h=>show e=.returned (.bool true)∧Below w8.heap.size w8 w' from ⟨by rw [h.1,decide_eq_true rfl],h.2⟩)
                  have H17:=Lib.hid h17
                  clear hrow8 hb8 hall htl H16 HR7 h17
                  go_wp2_with fail
                  go_at_call 17
                  refine H17.out.mono ?_
                  rintro e w9 ⟨rfl,hb9⟩
                  have HB9:=Lib.hid (bl_tr HR8.out.2.2 hb9)
                  clear hb9 H17 HR8
                  go_wp2_with fail
                  refine bodyPost_ret (v:=.bool true) ?_ rfl ⟨rfl,HB9.out⟩
                  simp [results,Tryz.results7,go_sem]
    · have i1 : ¬ (2147483647:Int)<(subs.length:Int):=by omega
      have i2:(2147483647:Int)<(s.size:Int):=by omega
      clear h1 h2
      go_enter Tryz.func7,Tryz.ntmps7
      go_wp2_with fail
      refine bodyPost_ret (v:=.bool true) ?_ rfl ⟨rfl,(St.nil w).below⟩
      simp [results,Tryz.results7,go_sem]
  · have i1:(2147483647:Int)<(subs.length:Int):=by omega
    clear h1
    go_enter Tryz.func7,Tryz.ntmps7
    go_wp2_with fail
    refine bodyPost_ret (v:=.bool true) ?_ rfl ⟨rfl,(St.nil w).below⟩
    simp [results,Tryz.results7,go_sem]
end Go.Proofs.YtbcngfgemjdllaaGreatDoor
end
