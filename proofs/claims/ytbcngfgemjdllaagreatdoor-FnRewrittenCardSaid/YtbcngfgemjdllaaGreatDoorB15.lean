/- Part 15: Pl13, Pl14, Pl15. -/
import Derived.Test.YtbcngfgemjdllaaGreatDoorB11
set_option linter.unusedVariables false
set_option linter.unusedSimpArgs false
section
namespace Lx
theorem sumg_nodup {g:Nat→Nat} : ∀ (l V:List Nat),l.Nodup→(∀ s ∈ l,s ∈ V)→sumg g l≤sumg g V
  | [],_,_,_=>Nat.zero_le _
  | s::l,V,hn,h=>by
    rw [sumg_perm (List.perm_cons_erase (h s (by simp)))]
    simp only [sumg]
    rw [List.nodup_cons] at hn
    have:=sumg_nodup (g:=g) l (V.erase s) hn.2 fun t ht=>(List.mem_erase_of_ne (by rintro rfl; exact hn.1 ht)).2 (h t (by simp [ht]))
    omega
section
variable {out:Nat→List Tr} {n:Nat}
theorem clo_stable:∀ (m s:Nat),Dep out m s→clo out (m+1) s=clo out m s
  | 0,_,h=>h.elim
  | m + 1, s, h => by
    by_cases he:epsOnly (out s)=true
    · have e1:clo out (m+1+1) s=(out s).flatMap fun tr=>clo out (m+1) tr.to:=by rw [clo,if_pos he]
      have e2:clo out (m+1) s=(out s).flatMap fun tr=>clo out m tr.to:=by rw [clo,if_pos he]
      rw [e1,e2]
      have key:∀ l:List Tr,(∀ tr ∈ l,Dep out m tr.to)→(l.flatMap fun tr=>clo out (m+1) tr.to)=l.flatMap fun tr=>clo out m tr.to:=by
        intro l
        induction l with
        | nil=>intro _; rfl
        | cons x l ih=>intro hl; rw [List.flatMap_cons,List.flatMap_cons,clo_stable m x.to (hl x (by simp)),ih fun t ht=>hl t (by simp [ht])]
      exact key _ fun tr htr=>h he tr htr
    · rw [clo,if_neg he,clo,if_neg he]
theorem clo_hc {lo hi:Nat} (h:∀ s,lo≤s→s<hi→Dep out n s):HC out (fun s=>(clo out n s).length) lo hi:=by
  intro s h1 h2
  have hd:=h s h1 h2
  cases n with
  | zero=>exact hd.elim
  | succ m =>
    simp only
    by_cases he:epsOnly (out s)=true
    · rw [if_pos he]
      have e2:clo out (m+1) s=(out s).flatMap fun tr=>clo out m tr.to:=by rw [clo,if_pos he]
      rw [e2]
      have key:∀ l:List Tr,(∀ tr ∈ l,Dep out m tr.to)→(l.flatMap fun tr=>clo out m tr.to).length=sumt (fun s=>(clo out (m+1) s).length) l:=by
        intro l
        induction l with
        | nil=>intro _; rfl
        | cons x l ih=>intro hl; rw [List.flatMap_cons,List.length_append,ih fun t ht=>hl t (by simp [ht])]; simp only [sumt]; rw [clo_stable m x.to (hl x (by simp))]
      exact key _ fun tr htr=>hd he tr htr
    · rw [if_neg he,clo,if_neg he]; rfl
theorem clo_ers:∀ (n s q:Nat),q ∈ clo out n s→Ers out s q
  | 0,_,_,h=>by simp [clo] at h
  | n + 1, s, q, h => by
    unfold clo at h
    by_cases he:epsOnly (out s)=true
    · rw [if_pos he] at h
      obtain ⟨tr,h1,h2⟩:=List.mem_flatMap.1 h
      exact .step he h1 (clo_ers n _ _ h2)
    · rw [if_neg he] at h
      simp at h; subst h; exact .refl _
theorem clo_ne:∀ (n s:Nat),Dep out n s→clo out n s≠[]
  | 0,_,h=>h.elim
  | n + 1, s, h => by
    unfold clo
    by_cases he:epsOnly (out s)=true
    · rw [if_pos he]
      cases e:out s with
      | nil=>rw [e] at he; simp [epsOnly] at he
      | cons tr l =>
        intro h2
        have:=clo_ne n tr.to (h he tr (by rw [e]; simp))
        rw [List.flatMap_cons,List.append_eq_nil_iff] at h2
        exact this h2.1
    · rw [if_neg he]; simp
variable {K A Ru:Nat→Nat} {r:Nat} {e:Ex} {lo:Nat}
theorem Ed.tr_to (d:Ed):d.tr.to=d.to:=by unfold Ed.tr; (repeat' split) <;> rfl
theorem blk_to (hb:Blk out K A Ru r e lo) {s:Nat} (h1:lo≤s) (h2:s<lo+2+nst e):∀ tr ∈ out s,lo≤tr.to∧tr.to<lo+2+nst e:=by
  intro tr htr
  have hf:=fst_lt e (lo+2)
  have hl:=lst_lt e (lo+2)
  by_cases c0:s=lo
  · rw [c0,hb.start] at htr; simp at htr; subst htr; simp only [Tr.to]; omega
  by_cases c1:s=lo+1
  · rw [c1,hb.stop] at htr; simp at htr
  by_cases c2:s=lstS e (lo+2)
  · rw [c2,hb.last] at htr; simp at htr; subst htr; simp only [Tr.to]; omega
  · rw [hb.laid s (by omega) (by omega) c2] at htr
    unfold outL at htr
    obtain ⟨d,hd,rfl⟩:=List.mem_map.1 htr
    have:=edg_in e (lo+2) d (List.mem_filter.1 hd).1
    unfold InR at this
    rw [Ed.tr_to]
    omega
theorem blk_ers (hb:Blk out K A Ru r e lo) {s t:Nat} (h:Ers out s t):lo≤s→s<lo+2+nst e→lo≤t∧t<lo+2+nst e:=by
  induction h with
  | refl s=>exact fun a b=>⟨a,b⟩
  | step _ ht _ ih=>exact fun a b=>ih (blk_to hb a b _ ht).1 (blk_to hb a b _ ht).2
theorem blk_cnt (hb:Blk out K A Ru r e lo) {d:Nat} (hg:good d e=true) (hl:loops e=false) (hd:∀ s,lo≤s→s<lo+2+nst e→Dep out n s) :
    (clo out n lo).length=fE e 1∧sumg (gsy out fun s=>(clo out n s).length) (rg lo (2+nst e))=gE e 1:=by
  have hc:=clo_hc hd
  have hll:=lst_lt e (lo+2)
  have hff:=fst_lt e (lo+2)
  obtain ⟨a1,a2⟩:=cnt_all e d hg hl out _ (lo+2) hb.laid ⟨_,hb.last⟩ (hc.sub (by omega) (by omega))
  have c1:=hc.one (by omega) (by omega) hb.last
  have c2:=hc (lo+1) (by omega) (by omega)
  rw [hb.stop,if_neg (by simp [epsOnly])] at c2
  simp only at c2
  have c3:=hc.one (Nat.le_refl _) (by omega) hb.start
  rw [c1,c2] at a1 a2
  refine ⟨c3.trans a1,?_⟩
  have h2:rg lo (2+nst e)=lo::(lo+1)::rg (lo+2) (nst e):=by rw [rg_add]; rfl
  rw [h2]
  have g1:gsy out (fun s=>(clo out n s).length) (lo+1)=0:=gsy_eps (by rw [hb.stop]; simp)
  simp only [sumg,gsy_one hb.start,g1,a2,Nat.zero_add]
theorem rules_sum (K A Ru:Nat→Nat) (M:Nat):∀ (es:List Ex) (lo:Nat),(∀ (r:Nat) (e:Ex) (lo':Nat),es[r]? = some e→(cStart es lo)[r]? = some lo'→∃ R,Blk out K A Ru R e lo') →
    (∀ e ∈ es,(∃ d,good d e=true)∧loops e=false)→(∀ e ∈ es,fE e 1≤M∧gE e 1≤M)→(∀ s,lo≤s→s<lo+cN es→Dep out n s) →
    sumg (gsy out fun s=>(clo out n s).length) (rg lo (cN es))≤es.length * M∧sumg (fun s=>(clo out n s).length) (cStart es lo)≤es.length * M
  | [],lo,_,_,_,_=>by simp [cN,rg,sumg,cStart]
  | e::es,lo,hb,hg,hm,hd=>by
    simp only [cN] at hd ⊢
    obtain ⟨R,hR⟩:=hb 0 e lo rfl rfl
    obtain ⟨⟨d,hgd⟩,hlp⟩:=hg e (by simp)
    obtain ⟨h1,h1'⟩:=blk_cnt (n:=n) hR hgd hlp fun s a b=>hd s (by omega) (by omega)
    obtain ⟨h2,h2'⟩:=rules_sum K A Ru M es (lo+2+nst e) (fun r e' lo' a b=>hb (r+1) e' lo' (by simpa using a) (by simpa [cStart] using b)) (fun e' he=>hg e' (by simp [he])) (fun e' he=>hm e' (by simp [he])) fun s a b=>hd s (by omega) (by omega)
    obtain ⟨m1,m2⟩:=hm e (by simp)
    rw [rg_add,sumg_append,show lo+(2+nst e)=lo+2+nst e from by omega]
    simp only [cStart,sumg,List.length_cons,Nat.succ_mul]
    omega
end
structure LOk (rules:List Ex) (L:List Cf):Prop where
  nd:L.Nodup
  ok:∀ x ∈ L,1≤x.1∧x.1<1+cN rules∧x.2=nRu rules x.1+1∧x.2≤rules.length
section
variable {rules:List Ex} {n:Nat}
theorem nBlk_of {s:Nat} (h1:1≤s) (h2:s<1+cN rules):∃ (r:Nat) (e:Ex) (lo:Nat),rules[r]? = some e∧1≤lo∧lo+2+nst e≤1+cN rules∧lo≤s∧s<lo+2+nst e∧Blk (nOut rules) (nK rules) (nA rules) (nRu rules) r e lo:=by
  obtain ⟨r,e,lo,he,hlo,g1,g2⟩:=(nBlks rules).2 s h1 h2
  obtain ⟨lo',hlo',g3,g4,hb⟩:=(nBlks rules).1 r e he
  rw [hlo] at hlo'
  obtain rfl:lo=lo':=by simpa using hlo'
  exact ⟨r,e,lo,he,g3,g4,g1,g2,hb⟩
theorem nBlk_all:∀ (r:Nat) (e:Ex) (lo':Nat),rules[r]? = some e→(cStart rules 1)[r]? = some lo'→∃ R,Blk (nOut rules) (nK rules) (nA rules) (nRu rules) R e lo':=by
  intro r e lo' he hlo
  obtain ⟨lo,hlo',_,_,hb⟩:=(nBlks rules).1 r e he
  rw [hlo] at hlo'
  obtain rfl:lo'=lo:=by simpa using hlo'
  exact ⟨r,hb⟩
theorem ers_rule {s t:Nat} (h1:1≤s) (h2:s<1+cN rules) (h:Ers (nOut rules) s t):1≤t∧t<1+cN rules∧nRu rules t=nRu rules s:=by
  obtain ⟨r,e,lo,he,g1,g2,g3,g4,hb⟩:=nBlk_of h1 h2
  have:=blk_ers hb h g3 g4
  exact ⟨by omega,by omega,by rw [hb.rule t (by omega) (by omega),hb.rule s g3 g4]⟩
theorem to_rule {s:Nat} (h1:1≤s) (h2:s<1+cN rules) {tr:Tr} (h:tr ∈ nOut rules s):1≤tr.to∧tr.to<1+cN rules∧nRu rules tr.to=nRu rules s:=by
  obtain ⟨r,e,lo,he,g1,g2,g3,g4,hb⟩:=nBlk_of h1 h2
  have:=blk_to hb g3 g4 _ h
  exact ⟨by omega,by omega,by rw [hb.rule _ this.1 (by omega),hb.rule s g3 g4]⟩
theorem st0_in:∀ x ∈ st0 (nOut rules) n,1≤x.1∧x.1<1+cN rules∧x.2=nRu rules x.1+1∧x.2≤rules.length:=by
  intro x hx
  unfold st0 at hx
  obtain ⟨⟨tr,i⟩,h1,h2⟩:=List.mem_flatMap.1 hx
  obtain ⟨y,h3,rfl⟩:=List.mem_map.1 h2
  have h4:(nOut rules 0)[i]? = some tr:=by simpa using List.mk_mem_zipIdx_iff_getElem?.1 h1
  rw [nOut_zero,List.getElem?_map] at h4
  cases hc:(cStart rules 1)[i]? with
  | none=>rw [hc] at h4; cases h4
  | some lo =>
    rw [hc] at h4
    simp at h4
    subst h4
    have hi:i<rules.length:=by have:=(List.getElem?_eq_some_iff.1 hc).1; rwa [cStart_len] at this
    obtain ⟨lo',k1,k2,k3,hb⟩:=(nBlks rules).1 i _ (List.getElem?_eq_getElem hi)
    rw [hc] at k1
    obtain rfl:lo=lo':=by simpa using k1
    have:=blk_ers hb (clo_ers _ _ _ h3) (by simp [Tr.to]) (by simp only [Tr.to]; omega)
    simp only
    rw [hb.rule y (by omega) (by omega)]
    omega
theorem rch1_in {L:List Cf} {c:Int} (hL:∀ x ∈ L,1≤x.1∧x.1<1+cN rules∧x.2=nRu rules x.1+1∧x.2≤rules.length) :
    ∀ x ∈ rch1 (nOut rules) n L c,1≤x.1∧x.1<1+cN rules∧x.2=nRu rules x.1+1∧x.2≤rules.length:=by
  intro y hy
  unfold rch1 at hy
  obtain ⟨x,hx,h2⟩:=List.mem_flatMap.1 hy
  obtain ⟨tr,ht,h3⟩:=List.mem_flatMap.1 h2
  split at h3
  · obtain ⟨q,h4,rfl⟩:=List.mem_map.1 h3
    obtain ⟨a1,a2,a3,a4⟩:=hL x hx
    obtain ⟨b1,b2,b3⟩:=to_rule a1 a2 ht
    obtain ⟨c1,c2,c3⟩:=ers_rule b1 b2 (clo_ers _ _ _ h4)
    simp only
    rw [c3,b3]
    omega
  · simp at h3
theorem st0_len (hg:GoodR rules) (hn:∀ s,1≤s→Dep (nOut rules) n s) (hs:Small rules):(st0 (nOut rules) n).length<1099511627776:=by
  have h1:=(rules_sum (out:=nOut rules) (n:=n) (nK rules) (nA rules) (nRu rules) 219902325555 rules 1 nBlk_all (fun e he=>⟨(hg e he).1,(hg e he).2.2⟩) (fun e he=>⟨hs.f e he,hs.g e he⟩) fun s a _=>hn s a).2
  have key:∀ (l:List Nat) (k:Nat),(((l.map Tr.eps).zipIdx k).flatMap fun x=>(clo (nOut rules) n x.1.to).map (·,x.2+1)).length=sumg (fun s=>(clo (nOut rules) n s).length) l:=by
    intro l
    induction l with
    | nil=>intro k; rfl
    | cons s l ih=>intro k; simp only [List.map_cons,List.zipIdx_cons,List.flatMap_cons,List.length_append,List.length_map,ih,sumg]; rfl
  unfold st0
  rw [nOut_zero,key]
  have:=Nat.mul_le_mul_right 219902325555 hs.len
  omega
theorem rch1_gs (hg:GoodR rules) (L:List Cf) (c:Int):(rch1 (nOut rules) n L c).length≤sumg (gsy (nOut rules) fun s=>(clo (nOut rules) n s).length) (L.map (·.1)):=by
  induction L with
  | nil=>exact Nat.le_refl _
  | cons x L ih =>
    unfold rch1 at ih ⊢
    rw [List.flatMap_cons,List.length_append,List.map_cons]
    simp only [sumg]
    refine Nat.add_le_add ?_ ih
    rcases nPlain hg x.1 with h | h | ⟨a,b,q,h⟩
    · rw [h]; exact Nat.zero_le _
    · rw [show ((nOut rules x.1).flatMap fun tr=>if tr.fits c then (clo (nOut rules) n tr.to).map (·,x.2) else [])=[] from ?_]
      · exact Nat.zero_le _
      · rw [List.flatMap_eq_nil_iff]
        intro tr htr
        simp only [epsOnly,Bool.and_eq_true,List.all_eq_true] at h
        have:=h.2 tr htr
        cases tr with
        | eps q=>simp [Tr.fits]
        | sym a b q=>simp [Tr.isEps] at this
    · unfold gsy
      rw [h]
      simp only [List.flatMap_cons,List.flatMap_nil,List.append_nil,Tr.to]
      split
      · rw [List.length_map]; exact Nat.le_refl _
      · exact Nat.zero_le _
theorem LOk.fst {L:List Cf} (h:LOk rules L):(L.map (·.1)).Nodup:=by
  obtain ⟨h1,h2⟩:=h
  induction L with
  | nil=>simp
  | cons x L ih =>
    rw [List.nodup_cons] at h1
    rw [List.map_cons,List.nodup_cons]
    refine ⟨fun hm => ?_,ih h1.2 fun y hy=>h2 y (by simp [hy])⟩
    obtain ⟨y,hy,e⟩:=List.mem_map.1 hm
    have a:=(h2 x (by simp)).2.2.1
    have b:=(h2 y (by simp [hy])).2.2.1
    rw [e] at b
    have:y=x:=Prod.ext e (b.trans a.symm)
    exact h1.1 (this ▸ hy)
theorem rch1_len (hg:GoodR rules) (hn:∀ s,1≤s→Dep (nOut rules) n s) (hs:Small rules) {L:List Cf} (h:LOk rules L) (c:Int):(rch1 (nOut rules) n L c).length<1099511627776:=by
  have h1:=(rules_sum (out:=nOut rules) (n:=n) (nK rules) (nA rules) (nRu rules) 219902325555 rules 1 nBlk_all (fun e he=>⟨(hg e he).1,(hg e he).2.2⟩) (fun e he=>⟨hs.f e he,hs.g e he⟩) fun s a _=>hn s a).1
  have h3:=rch1_gs (n:=n) hg L c
  have h4:=sumg_nodup (g:=gsy (nOut rules) fun s=>(clo (nOut rules) n s).length) (L.map (·.1)) (rg 1 (cN rules)) h.fst fun s hs=>by
    obtain ⟨x,hx,rfl⟩:=List.mem_map.1 hs
    have:=h.ok x hx
    rw [mem_rg]; omega
  have:=Nat.mul_le_mul_right 219902325555 hs.len
  omega
theorem adds_sub {h:Cf→Int} : ∀ (xs:List Cf) (S:CS),∀ x ∈ (adds h S xs).cf,x ∈ S.cf∨x ∈ xs
  | [],S,x,hx=>.inl hx
  | y :: xs, S, x, hx => by
    rw [show adds h S (y::xs)=adds h (add1 h S y) xs from rfl] at hx
    rcases adds_sub xs _ x hx with hx | hx
    · simp only [add1] at hx
      split at hx
      · exact .inl hx
      · rcases List.mem_append.1 hx with hx | hx
        · exact .inl hx
        · simp at hx; exact .inr (by simp [hx])
    · exact .inr (by simp [hx])
theorem adds_nodup {h:Cf→Int} : ∀ (xs:List Cf) (S:CS),S.cf.Nodup→(adds h S xs).cf.Nodup
  | [],S,hS=>hS
  | y :: xs, S, hS => by
    rw [show adds h S (y::xs)=adds h (add1 h S y) xs from rfl]
    refine adds_nodup xs _ ?_
    simp only [add1]
    split
    · exact hS
    · rename_i hn
      rw [List.nodup_append]
      refine ⟨hS,by simp,fun a ha b hb => ?_⟩
      simp at hb
      subst hb
      rintro rfl
      exact hn (List.any_eq_true.2 ⟨a,ha,by simp⟩)
theorem LOk.of {h:Cf→Int} {xs:List Cf} (hx:∀ x ∈ xs,1≤x.1∧x.1<1+cN rules∧x.2=nRu rules x.1+1∧x.2≤rules.length):LOk rules (adds h ⟨[],[]⟩ xs).cf :=
  ⟨adds_nodup _ _ (by simp),fun x hm=>by
    rcases adds_sub _ _ x hm with hm | hm
    · simp at hm
    · exact hx x hm⟩
def DOk (rules:List Ex) (D:DS):Prop:=∀ L ∈ D.sts,LOk rules L
variable {h:Cf→Int} {hs:List Cf→Int}
theorem st0_ne (hr:rules≠[]) (hn:∀ s,1≤s→Dep (nOut rules) n s):st0 (nOut rules) n≠[]:=by
  cases rules with
  | nil=>exact absurd rfl hr
  | cons e es =>
    unfold st0
    rw [nOut_zero]
    simp only [cStart,List.map_cons,List.zipIdx_cons,List.flatMap_cons]
    intro h2
    rw [List.append_eq_nil_iff,List.map_eq_nil_iff] at h2
    exact clo_ne _ _ (hn 1 (Nat.le_refl _)) h2.1
end
end Lx
end
section
namespace Lx
theorem many_drop {p:Nat} {r r':Nat→Nat→Prop} (h:∀ i j,r i j ↔ r' (p+i) (p+j)) (hle:∀ i j,r' i j→i≤j) (i j:Nat):Many r i j ↔ Many r' (p+i) (p+j):=by
  constructor
  · intro m
    induction m with
    | nil=>exact .nil _
    | cons a _ ih=>exact .cons ((h _ _).1 a) ih
  · intro m
    generalize hx:p+i=x at m
    generalize hy:p+j=y at m
    induction m generalizing i with
    | nil => obtain rfl : i = j := by omega
             exact .nil _
    | @cons a k c h1 _ ih =>
      subst hx
      have h2:=hle _ _ h1
      obtain ⟨k',rfl⟩:∃ k',k=p+k':=⟨k - p,by omega⟩
      exact .cons ((h i k').2 h1) (ih k' rfl hy)
section
variable {t:List Nat} {p:Nat}
theorem RRow_drop:∀ (ss:List Ex),(∀ s ∈ ss,∀ i j,R (t.drop p) s i j ↔ R t s (p+i) (p+j))→∀ i j,RRow (t.drop p) ss i j ↔ RRow t ss (p+i) (p+j)
  | [],_,i,j=>by simp only [RRow]; omega
  | s :: ss, h, i, j => by
    simp only [RRow]
    have ih:=RRow_drop ss fun t ht=>h t (by simp [ht])
    constructor
    · rintro ⟨k,h1,h2⟩
      exact ⟨p+k,(h s (by simp) _ _).1 h1,(ih _ _).1 h2⟩
    · rintro ⟨k,h1,h2⟩
      have:=(R_le s _ _ h1).1
      obtain ⟨k',rfl⟩:∃ k',k=p+k':=⟨k - p,by omega⟩
      exact ⟨k',(h s (by simp) _ _).2 h1,(ih _ _).2 h2⟩
theorem RAlt_drop:∀ (ss:List Ex),(∀ s ∈ ss,∀ i j,R (t.drop p) s i j ↔ R t s (p+i) (p+j))→∀ i j,RAlt (t.drop p) ss i j ↔ RAlt t ss (p+i) (p+j)
  | [],_,i,j=>by simp only [RAlt]
  | s::ss,h,i,j=>by
    simp only [RAlt]
    rw [h s (by simp),RAlt_drop ss fun t ht=>h t (by simp [ht])]
theorem R_drop:∀ (e:Ex) (i j:Nat),R (t.drop p) e i j ↔ R t e (p+i) (p+j):=by
  intro e
  induction e using Ex.ind with
  | h op a b ss ih =>
    intro i j
    have halt:=RAlt_drop ss ih
    have hmany:=many_drop halt (fun i j h=>(R_alt_le ss (fun s _=>R_le s) i j h).1)
    simp only [R]
    by_cases h0:op=0
    · simp only [if_pos h0,List.getElem?_drop]
      constructor
      · rintro ⟨h1,h2⟩; exact ⟨by omega,h2⟩
      · rintro ⟨h1,h2⟩; exact ⟨by omega,h2⟩
    simp only [if_neg h0]
    by_cases h1:op=1
    · simp only [if_pos h1]; exact RRow_drop ss ih i j
    simp only [if_neg h1]
    by_cases h2:op=2
    · simp only [if_pos h2]; exact halt i j
    simp only [if_neg h2]
    by_cases h5:op=5
    · simp only [if_pos h5]; rw [halt]; constructor
      · rintro (h | h)
        · exact .inl (by omega)
        · exact .inr h
      · rintro (h | h)
        · exact .inl (by omega)
        · exact .inr h
    simp only [if_neg h5]
    by_cases h3:op=3
    · simp only [if_pos h3]; exact hmany i j
    simp only [if_neg h3]
    constructor
    · rintro ⟨k,h1,h2⟩; exact ⟨p+k,(halt _ _).1 h1,(hmany _ _).1 h2⟩
    · rintro ⟨k,h1,h2⟩
      have:=(R_alt_le ss (fun s _=>R_le s) _ _ h1).1
      obtain ⟨k',rfl⟩:∃ k',k=p+k':=⟨k - p,by omega⟩
      exact ⟨k',(halt _ _).2 h1,(hmany _ _).2 h2⟩
variable {rules:List Ex}
theorem Mt_drop (r i j:Nat):Mt rules (t.drop p) r i j ↔ Mt rules t r (p+i) (p+j):=by
  unfold Mt
  constructor
  · rintro ⟨e,h1,h2⟩; exact ⟨e,h1,(R_drop e _ _).1 h2⟩
  · rintro ⟨e,h1,h2⟩; exact ⟨e,h1,(R_drop e _ _).2 h2⟩
theorem Mt_le {r i j:Nat} (h:Mt rules t r i j):i≤j:=by obtain ⟨e,_,h2⟩:=h; exact (R_le e _ _ h2).1
theorem Lgst_drop (i r j:Nat):Lgst rules (t.drop p) i r j ↔ Lgst rules t (p+i) r (p+j):=by
  unfold Lgst
  constructor
  · rintro ⟨h1,h2,h3⟩
    refine ⟨(Mt_drop _ _ _).1 h1,fun r' j' hm => ?_,fun r' hm=>h3 r' ((Mt_drop _ _ _).2 hm)⟩
    have:=Mt_le hm
    obtain ⟨k,rfl⟩:∃ k,j'=p+k:=⟨j' - p,by omega⟩
    have:=h2 r' k ((Mt_drop _ _ _).2 hm)
    omega
  · rintro ⟨h1,h2,h3⟩
    refine ⟨(Mt_drop _ _ _).2 h1,fun r' j' hm => ?_,fun r' hm=>h3 r' ((Mt_drop _ _ _).1 hm)⟩
    have:=h2 r' (p+j') ((Mt_drop _ _ _).1 hm)
    omega
def shT (t:List Nat) (p:Nat) (tk:Tok):Tok:=⟨tk.kind,tk.start - p,tk.stop - p,(plc (t.drop p) (tk.stop - p)).1,(plc (t.drop p) (tk.stop - p)).2⟩
theorem AllR_drop {x i:Nat} {l:List Tok} {f:Int} (h:AllR rules t x l f) (hx:x=p+i) (hp:p≤t.length):AllR rules (t.drop p) i (l.map (shT t p)) (if f<0 then f else f - p):=by
  induction h generalizing i with
  | done h=>simp only [List.map_nil]; exact .done (by rw [List.length_drop]; omega)
  | @fail x h hn =>
    subst hx
    simp only [List.map_nil]
    rw [if_neg (by omega),show ((p+i:Nat):Int) - p=(i:Int) from by omega]
    exact .fail (by rw [List.length_drop]; omega) fun r j hm=>hn r (p+j) ((Mt_drop _ _ _).1 hm)
  | @step x r tk l f h1 h2 h3 h4 h5 h6 h7 _ ih =>
    subst hx
    have e:tk.stop=p+(tk.stop - p):=by omega
    simp only [List.map_cons]
    refine .step (r:=r) (by rw [List.length_drop]; omega) (by simp only [shT]; omega) h3 (by simp only [shT]; omega) (by simp only [shT]; rw [List.length_drop]; omega) rfl ?_ (ih e)
    simp only [shT]
    rw [Lgst_drop,← e]
    exact h7
theorem AllR.facts {i:Nat} {l:List Tok} {f:Int} (h:AllR rules t i l f):(∀ (k:Nat) (tk:Tok),l[k]? = some tk→tk.start=(if k=0 then i else ((l.map Tok.stop)[k - 1]?).getD 0)∧tk.start<tk.stop∧tk.stop≤t.length∧(∃ r:Nat,tk.kind=r+1∧r<rules.length∧Lgst rules t tk.start r tk.stop)∧(tk.ln,tk.col)=plc t tk.stop) ∧
    ((f = -1∧((l.map Tok.stop).getLast?).getD i=t.length)∨(f=((((l.map Tok.stop).getLast?).getD i:Nat):Int)∧((l.map Tok.stop).getLast?).getD i<t.length∧∀ r j,¬ Mt rules t r (((l.map Tok.stop).getLast?).getD i) j)):=by
  induction h with
  | done h=>exact ⟨by simp,.inl ⟨rfl,by simpa using h⟩⟩
  | fail h hn=>exact ⟨by simp,.inr ⟨rfl,by simpa using h,by simpa using hn⟩⟩
  | @step i r tk l f h1 h2 h3 h4 h5 h6 h7 _ ih =>
    obtain ⟨a1,a2⟩:=ih
    refine ⟨fun k tk' hk => ?_,?_⟩
    · cases k with
      | zero =>
        simp at hk; subst hk
        refine ⟨by simpa using h2,by omega,h5,⟨r,h3,?_,by rw [h2]; exact h7⟩,h6⟩
        obtain ⟨e,he,_⟩:=h7.1
        exact (List.getElem?_eq_some_iff.1 he).1
      | succ k =>
        simp at hk
        obtain ⟨b1,b2⟩:=a1 k tk' hk
        refine ⟨?_,b2⟩
        rw [b1]
        cases k with
        | zero=>simp
        | succ k=>simp
    · have e:(((tk::l).map Tok.stop).getLast?).getD i=((l.map Tok.stop).getLast?).getD tk.stop:=by
        cases l with
        | nil=>simp
        | cons x l=>simp [List.getLast?_cons]
      rw [e]
      exact a2
variable {h:Cf→Int} {hs:List Cf→Int} {out:Nat→List Tr} {n:Nat} {stop:Nat→Bool} {kindOf:Nat→Int}
end
end Lx
end
section
namespace Lx
section
variable {h:Cf→Int} {hs:List Cf→Int} {out:Nat→List Tr} {n:Nat} {stop:Nat→Bool} {kindOf:Nat→Int}
structure Sz (D D':DS) (m:Nat):Prop where
  s:D'.sts.length≤D.sts.length+m
  a:D'.asked.length≤D.asked.length+2 * m
theorem Sz.refl (D:DS):Sz D D 0:=⟨by omega,by omega⟩
theorem Sz.trans {D D' D'':DS} {m m':Nat} (a:Sz D D' m) (b:Sz D' D'' m'):Sz D D'' (m+m'):=⟨by have:=a.s; have:=b.s; omega,by have:=a.a; have:=b.a; omega⟩
theorem Sz.le {D D':DS} {m m':Nat} (a:Sz D D' m) (b:m≤m'):Sz D D' m':=⟨by have:=a.s; omega,by have:=a.a; omega⟩
theorem addS_sz (D:DS) (S:CS):Sz D (D.addS hs S).1 1:=by
  unfold DS.addS
  split
  · exact ⟨by simp,by simp⟩
  · exact ⟨by simp,by simp⟩
theorem stepD_sz (D:DS) (k c:Nat):Sz D (D.stepD h hs out n k c).1 1:=by
  unfold DS.stepD
  split
  · exact (Sz.refl D).le (by omega)
  · simp only
    split
    · exact ⟨by simp [DS.setE],by simp [DS.setE]⟩
    · have:=addS_sz (hs:=hs) D (adds h ⟨[],[]⟩ (rch1 out n (D.cfs k) c))
      exact ⟨this.s,this.a⟩
theorem startD_sz (D:DS):Sz D (D.startD h hs out n).1 1:=by
  unfold DS.startD
  split
  · exact (Sz.refl D).le (by omega)
  · have:=addS_sz (hs:=hs) D (adds h ⟨[],[]⟩ (st0 out n))
    exact ⟨this.s,this.a⟩
theorem runF_sz:∀ (cs:List Nat) (D:DS) (k pos ln col:Nat) (acc:Option AccR),Sz D (runF h hs out n stop cs D k pos ln col acc).1 cs.length
  | [],D,k,pos,ln,col,acc=>Sz.refl D
  | c :: cs, D, k, pos, ln, col, acc => by
    have h1:=stepD_sz (h:=h) (hs:=hs) (out:=out) (n:=n) D k c
    unfold runF
    split
    · exact h1.le (by simp)
    · refine (h1.trans (runF_sz cs _ _ _ _ _ _)).le ?_
      simp only [List.length_cons]; omega
theorem match1_sz (D:DS) (cs:List Nat) (pos ln col:Nat):Sz D (match1 h hs out n stop kindOf D cs pos ln col).1 (cs.length+1):=by
  refine ((startD_sz (h:=h) (hs:=hs) (out:=out) (n:=n) D).trans (runF_sz cs _ _ _ _ _ _)).le ?_
  omega
def AccB (p0 l0 k0:Nat) (acc:Option AccR):Prop:=∀ a,acc=some a→p0≤a.pos∧a.ln+p0≤l0+a.pos∧a.col+p0≤k0+a.pos
theorem moved_b (ln col c:Nat):(moved ln col c).1≤ln+1∧(moved ln col c).2≤col+1:=by
  unfold moved
  split <;> simp
theorem runF_b {p0 l0 k0:Nat} : ∀ (cs:List Nat) (D:DS) (k pos ln col:Nat) (acc:Option AccR),AccB p0 l0 k0 acc→p0≤pos→ln+p0≤l0+pos→col+p0≤k0+pos→AccB p0 l0 k0 (runF h hs out n stop cs D k pos ln col acc).2.1
  | [],D,k,pos,ln,col,acc,ha,_,_,_=>ha
  | c :: cs, D, k, pos, ln, col, acc, ha, h1, h2, h3 => by
    have hm:=moved_b ln col c
    unfold runF
    split
    · exact ha
    · refine runF_b cs _ _ _ _ _ _ ?_ (by omega) (by omega) (by omega)
      split
      · intro a e
        cases e
        exact ⟨by simp only; omega,by simp only; omega,by simp only; omega⟩
      · exact ha
theorem match1_b (D:DS) (cs:List Nat) (pos ln col:Nat) (tk:Tok) (e:(match1 h hs out n stop kindOf D cs pos ln col).2=.tok tk):tk.start=pos∧pos≤tk.stop∧tk.ln+pos≤ln+tk.stop∧tk.col+pos≤col+tk.stop:=by
  have hb:=runF_b (h:=h) (hs:=hs) (out:=out) (n:=n) (stop:=stop) (p0:=pos) (l0:=ln) (k0:=col) cs (D.startD h hs out n).1 (D.startD h hs out n).2 pos ln col
    (if (accd stop ((D.startD h hs out n).1.cfs (D.startD h hs out n).2)).isSome then some ⟨pos,ln,col,(D.startD h hs out n).2⟩ else none) (by
      split
      · intro a e; cases e; exact ⟨Nat.le_refl _,Nat.le_refl _,Nat.le_refl _⟩
      · intro a e; cases e) (Nat.le_refl _) (Nat.le_refl _) (Nat.le_refl _)
  unfold match1 at e
  simp only at e
  generalize runF h hs out n stop cs _ _ pos ln col _=R at hb e
  cases ha:R.2.1 with
  | some a =>
    rw [ha] at e
    have:=hb a ha
    injection e with e
    subst e
    exact ⟨rfl,this⟩
  | none =>
    rw [ha] at e
    simp only at e
    split at e <;> cases e
theorem startD_s0 (D:DS):(D.startD h hs out n).1.s0=some (D.startD h hs out n).2:=by
  unfold DS.startD
  split
  · next k e=>exact e
  · rfl
theorem addS_s0 (D:DS) (S:CS):(D.addS hs S).1.s0=D.s0:=by
  unfold DS.addS
  split <;> rfl
theorem stepD_s0 (D:DS) (k c:Nat):(D.stepD h hs out n k c).1.s0=D.s0:=by
  unfold DS.stepD
  split
  · rfl
  · simp only
    split
    · rfl
    · exact addS_s0 _ _
theorem runF_s0:∀ (cs:List Nat) (D:DS) (k pos ln col:Nat) (acc:Option AccR),(runF h hs out n stop cs D k pos ln col acc).1.s0=D.s0
  | [],D,k,pos,ln,col,acc=>rfl
  | c::cs,D,k,pos,ln,col,acc=>by
    unfold runF
    split
    · exact stepD_s0 _ _ _
    · rw [runF_s0 cs]; exact stepD_s0 _ _ _
theorem match1_s0 (D:DS) (cs:List Nat) (pos ln col:Nat):∃ k,(match1 h hs out n stop kindOf D cs pos ln col).1.s0=some k:=⟨_,(runF_s0 _ _ _ _ _ _ _).trans (startD_s0 D)⟩
end
end Lx
end
