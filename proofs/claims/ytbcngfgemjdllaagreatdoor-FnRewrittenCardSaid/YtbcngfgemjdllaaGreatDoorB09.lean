/- Part 9: Pl7, Pl8. -/
import Derived.Test.YtbcngfgemjdllaaGreatDoorB08
set_option linter.unusedVariables false
set_option linter.unusedSimpArgs false
section
namespace Lx
mutual
def sts:Ex→Nat→List (Nat × Nat)
  | .mk op _ _ ss,lo =>
    if op=0 then [(1,0),(1,0)]
    else if op=1 then (1,0)::(stss ss (lo+1)++[(1,0)])
    else if op=2 then (3,lo+1)::(8,0)::stss ss (lo+2)
    else if op=5 then (3,lo+1)::(8,0)::stss ss (lo+2)
    else if op=3 then (12,lo+2)::(10,0)::(9,0)::(5,lo+4)::(8,0)::stss ss (lo+5)
    else (12,lo+1)::(11,0)::(4,lo+3)::(8,0)::stss ss (lo+4)
def stss:List Ex→Nat→List (Nat × Nat)
  | [],_=>[]
  | s::ss,lo=>sts s lo++stss ss (lo+nst s)
end
mutual
def dcs:Ex→Nat→List Nat
  | .mk op _ _ ss,lo =>
    if op=0 then []
    else if op=1 then dcss ss (lo+1)
    else if op=2 then dcss ss (lo+2)++[lo]
    else if op=5 then dcss ss (lo+2)++[lo]
    else if op=3 then dcss ss (lo+5)++[lo+3,lo+1]
    else dcss ss (lo+4)++[lo+2,lo+1]
def dcss:List Ex→Nat→List Nat
  | [],_=>[]
  | s::ss,lo=>dcs s lo++dcss ss (lo+nst s)
end
theorem stss_len:∀ (ss:List Ex),(∀ s ∈ ss,∀ lo,(sts s lo).length=nst s)→∀ lo,(stss ss lo).length=nsts ss
  | [],_,_=>by simp [stss,nsts]
  | s::ss,hs,lo=>by simp only [stss,nsts,List.length_append,hs s (by simp),stss_len ss fun s h=>hs s (by simp [h])]
theorem sts_len:∀ (e:Ex) (lo:Nat),(sts e lo).length=nst e:=by
  intro e
  induction e using Ex.ind with
  | h op a b ss ih =>
    intro lo
    have:=stss_len ss ih
    simp only [sts,nst]
    repeat' split
    all_goals simp [this]
    all_goals omega
structure NodeOk (K A:Nat→Nat) (O:Nat→List Tr) (s:Nat):Prop where
  kind:K s=1∨K s=3∨K s=4∨K s=5∨K s=8∨K s=9∨K s=10∨K s=11∨K s=12
  outs:epsOnly (O s)=true∨∃ a b q,O s=[.sym a b q]
  bas:K s=1→∃ tr,O s=[tr]
  blk:K s=3∨K s=4∨K s=5→A s=s+1∧K (s+1)=8
  fin:K s=8→1≤s∧(K (s - 1)=3∨K (s - 1)=4∨K (s - 1)=5)
  pls:K s=4→1≤s∧K (s - 1)=11
  plb:K s=11→1≤s∧O s=[.eps (s+1),.eps (s - 1)]∧K (s+1)=4∧K (s - 1)=12
  ent:K s=10→1≤s∧O s=[.eps (s+2),.eps (s - 1)]∧K (s+2)=5∧K (s - 1)=12∧K (s+1)=9
  bck:K s=9→1≤s∧O s=[.eps (s - 1)]∧K (s - 1)=10
  end_:K s=12→A s=s+1∨A s=s+2
def Kin (K A:Nat→Nat) (l:List (Nat × Nat)) (lo:Nat):Prop:=∀ (i:Nat) k a,l[i]? = some (k,a)→K (lo+i)=k∧A (lo+i)=a
theorem Kin.left {K A:Nat→Nat} {l m:List (Nat × Nat)} {lo:Nat} (h:Kin K A (l++m) lo):Kin K A l lo:=fun i k a e=>h i k a (by
  rw [List.getElem?_append_left (List.getElem?_eq_some_iff.1 e).1]; exact e)
theorem Kin.right {K A:Nat→Nat} {l m:List (Nat × Nat)} {lo n:Nat} (h:Kin K A (l++m) lo) (hn:l.length=n):Kin K A m (lo+n):=fun i k a e=>by
  have:=h (n+i) k a (by rw [List.getElem?_append_right (by omega),hn,Nat.add_sub_cancel_left]; exact e)
  rwa [Nat.add_assoc]
theorem Kin.tail {K A:Nat→Nat} {x:Nat × Nat} {m:List (Nat × Nat)} {lo:Nat} (h:Kin K A (x::m) lo):Kin K A m (lo+1):=Kin.right (l:=[x]) h rfl
theorem Kin.head {K A:Nat→Nat} {k a:Nat} {m:List (Nat × Nat)} {lo:Nat} (h:Kin K A ((k,a)::m) lo):K lo=k∧A lo=a:=h 0 k a rfl
def NodeE (e:Ex):Prop:=∀ (K A:Nat→Nat) (O:Nat→List Tr) (lo:Nat),1≤lo→Kin K A (sts e lo) lo→Laid O (edg e lo) lo (lo+nst e) (lstS e lo)→(∃ q,O (lstS e lo)=[.eps q])→∀ s,lo≤s→s<lo+nst e→NodeOk K A O s
theorem node1 {K A:Nat→Nat} {O:Nat→List Tr} {s:Nat} (h:K s=1) {tr:Tr} (ho:O s=[tr]):NodeOk K A O s:=by
  refine ⟨.inl h,?_,fun _=>⟨tr,ho⟩,?_,?_,?_,?_,?_,?_,?_⟩
  · cases tr with
    | eps q=>left; rw [ho]; rfl
    | sym a b q=>right; exact ⟨a,b,q,ho⟩
  all_goals (intro h'; omega)
theorem node_row:∀ (ss:List Ex),(∀ s ∈ ss,NodeE s)→∀ (K A:Nat→Nat) (O:Nat→List Tr) (lo p:Nat),p<lo→1≤lo→Kin K A (stss ss lo) lo→(∀ s,lo≤s→s<lo+nsts ss→O s=outL (edgRow ss lo p) s) →
    O p=outL (edgRow ss lo p) p→(∃ q,O p=[.eps q])∧∀ s,lo≤s→s<lo+nsts ss→NodeOk K A O s
  | [],_,K,A,O,lo,p,hp,_,_,_,h0=>by
    refine ⟨⟨lo,?_⟩,fun s h1 h2=>by simp [nsts] at h2; omega⟩
    rw [h0]; simp [edgRow,outL_ep,outL_nil]
  | s :: ss, hs, K, A, O, lo, p, hp, h1, hk, h, h0 => by
    have hf:=fst_lt s lo
    have hl:=lst_lt s lo
    simp only [nsts,stss] at h hk ⊢
    have hr:=node_row ss (fun s h=>hs s (by simp [h])) K A O (lo+nst s) (lstS s lo) (by omega) (by omega) (hk.right (sts_len s lo)) (fun x h2 h3=>by
      rw [h x (by omega) (by omega)]
      simp only [edgRow,outL_append,outL_ep]
      rw [if_neg (by omega),edg_off (by omega),List.nil_append]) (by
      rw [h (lstS s lo) (by omega) (by omega)]
      simp only [edgRow,outL_append,outL_ep]
      rw [if_neg (by omega),edg_off (by omega),List.nil_append])
    have hlaid:Laid O (edg s lo) lo (lo+nst s) (lstS s lo):=fun x h2 h3 h4=>by
      rw [h x h2 (by omega)]
      simp only [edgRow,outL_append,outL_ep]
      rw [if_neg (by omega),edgRow_off (by omega) (by omega),List.append_nil]
    refine ⟨⟨fstS s lo,?_⟩,fun x h2 h3 => ?_⟩
    · rw [h0]
      simp only [edgRow,outL_append,outL_ep,if_true]
      rw [edg_off (by omega),edgRow_off (by omega) (by omega)]; rfl
    · by_cases hx:x<lo+nst s
      · exact hs s (by simp) K A O lo h1 hk.left hlaid hr.1 x h2 hx
      · exact hr.2 x (by omega) (by omega)
theorem node_alt:∀ (ss:List Ex),(∀ s ∈ ss,NodeE s)→∀ (K A:Nat→Nat) (O:Nat→List Tr) (lo st sp:Nat),st<lo→sp<lo→1≤lo→Kin K A (stss ss lo) lo→(∀ s,lo≤s→s<lo+nsts ss→O s=outL (edgAlt ss lo st sp) s) →
    (∀ tr ∈ outL (edgAlt ss lo st sp) st,tr.isEps=true)∧(ss≠[]→outL (edgAlt ss lo st sp) st≠[])∧∀ s,lo≤s→s<lo+nsts ss→NodeOk K A O s
  | [],_,K,A,O,lo,st,sp,_,_,_,_,_=>by
    refine ⟨by simp [edgAlt,outL_nil],by simp,fun s h1 h2=>by simp [nsts] at h2; omega⟩
  | s :: ss, hs, K, A, O, lo, st, sp, h1, h2, h3, hk, h => by
    have hf:=fst_lt s lo
    have hl:=lst_lt s lo
    simp only [nsts,stss] at h hk ⊢
    obtain ⟨r1,_,r3⟩:=node_alt ss (fun s h=>hs s (by simp [h])) K A O (lo+nst s) st sp (by omega) (by omega) (by omega) (hk.right (sts_len s lo)) (fun x h4 h5=>by
      rw [h x (by omega) (by omega)]
      simp only [edgAlt,outL_append,outL_ep]
      rw [if_neg (by omega),if_neg (by omega),edg_off (by omega),List.nil_append])
    have e0:outL (edgAlt (s::ss) lo st sp) st=.eps (fstS s lo)::outL (edgAlt ss (lo+nst s) st sp) st:=by
      simp only [edgAlt,outL_append,outL_ep,if_true]
      rw [edg_off (by omega),if_neg (by omega)]; rfl
    have e1:O (lstS s lo)=[.eps sp]:=by
      rw [h (lstS s lo) (by omega) (by omega)]
      simp only [edgAlt,outL_append,outL_ep,if_true]
      rw [if_neg (by omega),edg_off (by omega),edgAlt_off (by omega) (by omega) (by omega)]; rfl
    have hlaid:Laid O (edg s lo) lo (lo+nst s) (lstS s lo):=fun x h4 h5 h6=>by
      rw [h x h4 (by omega)]
      simp only [edgAlt,outL_append,outL_ep]
      rw [if_neg (by omega),if_neg (by omega),edgAlt_off (by omega) (by omega) (by omega),List.append_nil]
    rw [e0]
    refine ⟨fun tr htr => ?_,fun _=>by simp,fun x h4 h5 => ?_⟩
    · rcases List.mem_cons.1 htr with rfl | htr
      · rfl
      · exact r1 tr htr
    · by_cases hx:x<lo+nst s
      · exact hs s (by simp) K A O lo h3 hk.left hlaid ⟨sp,e1⟩ x h4 hx
      · exact r3 x (by omega) (by omega)
theorem epsOnly_of {l:List Tr} (h:∀ tr ∈ l,tr.isEps=true) (hne:l≠[]):epsOnly l=true:=by
  simp only [epsOnly,Bool.and_eq_true,List.all_eq_true]
  exact ⟨by cases l <;> simp_all,h⟩
theorem node_all:∀ (e:Ex) (d:Nat),good d e=true→NodeE e:=by
  intro e
  induction e using Ex.ind with
  | h op a b ss ih =>
    intro d hd K A O lo h1lo hk h hx
    obtain ⟨d,rfl⟩:∃ d',d=d'+1:=by cases d with | zero=>simp [good] at hd | succ d=>exact ⟨d,rfl⟩
    simp only [good,Bool.and_eq_true,List.all_eq_true] at hd
    have hko:=hd.2.2
    have ih':∀ s ∈ ss,NodeE s:=fun s hs=>ih s hs d (hd.2.1 s hs)
    clear ih
    obtain ⟨qx,hx⟩:=hx
    simp only [Laid,nst,lstS,edg,sts] at h hx hk ⊢
    by_cases h0:op=0
    · simp only [if_pos h0] at h hx hk ⊢
      intro s g1 g2
      have k0:=hk.head.1
      have k1:=hk.tail.head.1
      by_cases e:s=lo
      · subst e
        exact node1 k0 (tr:=.sym a b (s+1)) (by rw [h s (by omega) (by omega) (by omega)]; simp [outL_ch,outL_nil])
      · obtain rfl:s=lo+1:=by omega
        exact node1 k1 hx
    simp only [if_neg h0] at h hx hk ⊢
    by_cases h1:op=1
    · simp only [if_pos h1] at h hx hk ⊢
      have k0:=hk.head.1
      have kr:=hk.tail
      have kl:=(kr.right (stss_len ss (fun s _=>sts_len s) (lo+1))).head.1
      obtain ⟨⟨q,r1⟩,r2⟩:=node_row ss ih' K A O (lo+1) lo (by omega) (by omega) kr.left (fun s h2 h3=>h s (by omega) (by omega) (by omega)) (h lo (by omega) (by omega) (by omega))
      intro s g1 g2
      by_cases e:s=lo
      · subst e; exact node1 k0 r1
      by_cases e':s=lo+1+nsts ss
      · subst e'; exact node1 kl hx
      · exact r2 s (by omega) (by omega)
    simp only [if_neg h1] at h hx hk ⊢
    have hss:op≠2→op≠1→op≠0→ss≠[]:=by
      intro e2 e1 e0
      simp only [kindOk,if_neg e0,if_neg e1,if_neg e2,Bool.and_eq_true,beq_iff_eq] at hko
      intro e; rw [e] at hko; simp at hko
    by_cases h2:op=2
    · simp only [if_pos h2] at h hx hk ⊢
      have k0:=hk.head
      have k1:=hk.tail.head.1
      obtain ⟨r1,r2,r3⟩:=node_alt ss ih' K A O (lo+2) lo (lo+1) (by omega) (by omega) (by omega) hk.tail.tail fun s h4 h5=>h s (by omega) (by omega) (by omega)
      have e0:=h lo (by omega) (by omega) (by omega)
      have hne:ss≠[]:=by
        intro e
        subst h2
        simp [kindOk,e] at hko
      intro s g1 g2
      by_cases e:s=lo
      · subst e
        refine ⟨by omega,.inl ?_,by omega,fun _=>⟨k0.2,k1⟩,by omega,by omega,by omega,by omega,by omega,by omega⟩
        rw [e0]; exact epsOnly_of r1 (r2 hne)
      by_cases e':s=lo+1
      · subst e'
        refine ⟨by omega,.inl (by rw [hx]; rfl),by omega,by omega,fun _=>⟨by omega,.inl k0.1⟩,by omega,by omega,by omega,by omega,by omega⟩
      · exact r3 s (by omega) (by omega)
    simp only [if_neg h2] at h hx hk ⊢
    have hne:=hss h2 h1 h0
    by_cases h5:op=5
    · simp only [if_pos h5] at h hx hk ⊢
      have k0:=hk.head
      have k1:=hk.tail.head.1
      have hy:∀ s,lo+2≤s→s<lo+2+nsts ss→O s=outL (edgAlt ss (lo+2) lo (lo+1)) s:=fun s h4 h5=>by
        rw [h s (by omega) (by omega) (by omega)]
        simp only [outL_append,outL_ep,outL_nil]
        rw [if_neg (by omega),List.append_nil]
      obtain ⟨r1,r2,r3⟩:=node_alt ss ih' K A O (lo+2) lo (lo+1) (by omega) (by omega) (by omega) hk.tail.tail hy
      have e0:O lo=outL (edgAlt ss (lo+2) lo (lo+1)) lo++[.eps (lo+1)]:=by
        rw [h lo (by omega) (by omega) (by omega)]
        simp [outL_append,outL_ep,outL_nil]
      intro s g1 g2
      by_cases e:s=lo
      · subst e
        refine ⟨by omega,.inl ?_,by omega,fun _=>⟨k0.2,k1⟩,by omega,by omega,by omega,by omega,by omega,by omega⟩
        rw [e0]
        refine epsOnly_of (fun tr htr => ?_) (by simp)
        rcases List.mem_append.1 htr with htr | htr
        · exact r1 tr htr
        · simp at htr; subst htr; rfl
      by_cases e':s=lo+1
      · subst e'
        refine ⟨by omega,.inl (by rw [hx]; rfl),by omega,by omega,fun _=>⟨by omega,.inl k0.1⟩,by omega,by omega,by omega,by omega,by omega⟩
      · exact r3 s (by omega) (by omega)
    simp only [if_neg h5] at h hx hk ⊢
    by_cases h3:op=3
    · simp only [if_pos h3] at h hx hk ⊢
      have k0:K lo=12∧A lo=lo+2:=hk.head
      have k1:K (lo+1)=10:=hk.tail.head.1
      have k2:K (lo+2)=9:=hk.tail.tail.head.1
      have k3:K (lo+3)=5∧A (lo+3)=lo+4:=hk.tail.tail.tail.head
      have k4:K (lo+4)=8:=hk.tail.tail.tail.tail.head.1
      have hy:∀ s,lo+5≤s→s<lo+5+nsts ss→O s=outL (edgAlt ss (lo+5) (lo+3) (lo+4)) s:=fun s h4 h5=>by
        rw [h s (by omega) (by omega) (by omega)]
        simp only [outL_append,outL_ep,outL_nil]
        rw [if_neg (by omega),if_neg (by omega),if_neg (by omega),if_neg (by omega),List.append_nil]
      obtain ⟨r1,r2,r3⟩:=node_alt ss ih' K A O (lo+5) (lo+3) (lo+4) (by omega) (by omega) (by omega) hk.tail.tail.tail.tail.tail hy
      have e1:O (lo+1)=[.eps (lo+3),.eps lo]:=by
        rw [h (lo+1) (by omega) (by omega) (by omega)]
        simp only [outL_append,outL_ep,outL_nil,if_true]
        rw [edgAlt_off (by omega) (by omega) (by omega),if_neg (by omega),if_neg (by omega)]; rfl
      have e3:O (lo+3)=outL (edgAlt ss (lo+5) (lo+3) (lo+4)) (lo+3):=by
        rw [h (lo+3) (by omega) (by omega) (by omega)]
        simp only [outL_append,outL_ep,outL_nil,if_true]
        rw [if_neg (by omega),if_neg (by omega),if_neg (by omega),if_neg (by omega),List.append_nil]
      have e4:O (lo+4)=[.eps (lo+2)]:=by
        rw [h (lo+4) (by omega) (by omega) (by omega)]
        simp only [outL_append,outL_ep,outL_nil,if_true]
        rw [edgAlt_off (by omega) (by omega) (by omega),if_neg (by omega),if_neg (by omega),if_neg (by omega)]; rfl
      have e2:O (lo+2)=[.eps (lo+1)]:=by
        rw [h (lo+2) (by omega) (by omega) (by omega)]
        simp only [outL_append,outL_ep,outL_nil,if_true]
        rw [edgAlt_off (by omega) (by omega) (by omega),if_neg (by omega),if_neg (by omega),if_neg (by omega)]; rfl
      intro s g1 g2
      by_cases c0:s=lo
      · subst c0
        exact ⟨by omega,.inl (by rw [hx]; rfl),by omega,by omega,by omega,by omega,by omega,by omega,by omega,fun _=>.inr k0.2⟩
      by_cases c1:s=lo+1
      · subst c1
        exact ⟨by omega,.inl (by rw [e1]; rfl),by omega,by omega,by omega,by omega,by omega,fun _=>⟨by omega,e1,k3.1,k0.1,k2⟩,by omega,by omega⟩
      by_cases c2:s=lo+2
      · subst c2
        exact ⟨by omega,.inl (by rw [e2]; rfl),by omega,by omega,by omega,by omega,by omega,by omega,fun _=>⟨by omega,e2,k1⟩,by omega⟩
      by_cases c3:s=lo+3
      · subst c3
        refine ⟨by omega,.inl ?_,by omega,fun _=>⟨k3.2,k4⟩,by omega,by omega,by omega,by omega,by omega,by omega⟩
        rw [e3]; exact epsOnly_of r1 (r2 hne)
      by_cases c4:s=lo+4
      · subst c4
        exact ⟨by omega,.inl (by rw [e4]; rfl),by omega,by omega,fun _=>⟨by omega,.inr (.inr k3.1)⟩,by omega,by omega,by omega,by omega,by omega⟩
      · exact r3 s (by omega) (by omega)
    · simp only [if_neg h3] at h hx hk ⊢
      have k0:K lo=12∧A lo=lo+1:=hk.head
      have k1:K (lo+1)=11:=hk.tail.head.1
      have k2:K (lo+2)=4∧A (lo+2)=lo+3:=hk.tail.tail.head
      have k3:K (lo+3)=8:=hk.tail.tail.tail.head.1
      have hy:∀ s,lo+4≤s→s<lo+4+nsts ss→O s=outL (edgAlt ss (lo+4) (lo+2) (lo+3)) s:=fun s h4 h5=>by
        rw [h s (by omega) (by omega) (by omega)]
        simp only [outL_append,outL_ep,outL_nil]
        rw [if_neg (by omega),if_neg (by omega),if_neg (by omega),List.append_nil]
      obtain ⟨r1,r2,r3⟩:=node_alt ss ih' K A O (lo+4) (lo+2) (lo+3) (by omega) (by omega) (by omega) hk.tail.tail.tail.tail hy
      have e2:O (lo+2)=outL (edgAlt ss (lo+4) (lo+2) (lo+3)) (lo+2):=by
        rw [h (lo+2) (by omega) (by omega) (by omega)]
        simp only [outL_append,outL_ep,outL_nil,if_true]
        rw [if_neg (by omega),if_neg (by omega),if_neg (by omega),List.append_nil]
      have e3:O (lo+3)=[.eps (lo+1)]:=by
        rw [h (lo+3) (by omega) (by omega) (by omega)]
        simp only [outL_append,outL_ep,outL_nil,if_true]
        rw [edgAlt_off (by omega) (by omega) (by omega),if_neg (by omega),if_neg (by omega)]; rfl
      have e1:O (lo+1)=[.eps (lo+2),.eps lo]:=by
        rw [h (lo+1) (by omega) (by omega) (by omega)]
        simp only [outL_append,outL_ep,outL_nil,if_true]
        rw [edgAlt_off (by omega) (by omega) (by omega),if_neg (by omega)]; rfl
      intro s g1 g2
      by_cases c0:s=lo
      · subst c0
        exact ⟨by omega,.inl (by rw [hx]; rfl),by omega,by omega,by omega,by omega,by omega,by omega,by omega,fun _=>.inl k0.2⟩
      by_cases c1:s=lo+1
      · subst c1
        exact ⟨by omega,.inl (by rw [e1]; rfl),by omega,by omega,by omega,by omega,fun _=>⟨by omega,e1,k2.1,k0.1⟩,by omega,by omega,by omega⟩
      by_cases c2:s=lo+2
      · subst c2
        refine ⟨by omega,.inl ?_,by omega,fun _=>⟨k2.2,k3⟩,by omega,fun _=>⟨by omega,k1⟩,by omega,by omega,by omega,by omega⟩
        rw [e2]; exact epsOnly_of r1 (r2 hne)
      by_cases c3:s=lo+3
      · subst c3
        exact ⟨by omega,.inl (by rw [e3]; rfl),by omega,by omega,fun _=>⟨by omega,.inr (.inl k2.1)⟩,by omega,by omega,by omega,by omega,by omega⟩
      · exact r3 s (by omega) (by omega)
end Lx
end
section
namespace Lx
def cN:List Ex→Nat
  | []=>0
  | e::es=>2+nst e+cN es
def cSts:List Ex→Nat→Nat→List (Nat × Nat × Nat)
  | [],_,_=>[]
  | e::es,r,lo=>(2,r,0)::(7,r,0)::((sts e (lo+2)).map fun x=>(x.1,r,x.2))++cSts es (r+1) (lo+2+nst e)
def cEdg:List Ex→Nat→List Ed
  | [],_=>[]
  | e::es,lo=>edg e (lo+2)++(ep 0 lo::ep lo (fstS e (lo+2))::ep (lstS e (lo+2)) (lo+1)::cEdg es (lo+2+nst e))
def cStart:List Ex→Nat→List Nat
  | [],_=>[]
  | e::es,lo=>lo::cStart es (lo+2+nst e)
def cDec:List Ex→Nat→List Nat
  | [],_=>[]
  | e::es,lo=>dcs e (lo+2)++cDec es (lo+2+nst e)
theorem cSts_len (es:List Ex):∀ r lo,(cSts es r lo).length=cN es:=by
  induction es with
  | nil=>intro r lo; rfl
  | cons e es ih=>intro r lo; simp only [cSts,cN,List.cons_append,List.length_cons,List.length_append,List.length_map,sts_len,ih]; omega
theorem cStart_len (es:List Ex):∀ lo,(cStart es lo).length=es.length:=by
  induction es with
  | nil=>intro lo; rfl
  | cons e es ih=>intro lo; simp [cStart,ih]
theorem cEdg_in (es:List Ex):∀ lo,1≤lo→∀ d ∈ cEdg es lo,(d.src=0∨(lo≤d.src∧d.src<lo+cN es))∧lo≤d.to∧d.to<lo+cN es:=by
  induction es with
  | nil=>intro lo _ d hd; simp [cEdg] at hd
  | cons e es ih =>
    intro lo h1 d hd
    have hf:=fst_lt e (lo+2)
    have hl:=lst_lt e (lo+2)
    simp only [cEdg,List.mem_append,List.mem_cons] at hd
    simp only [cN]
    rcases hd with hd | rfl | rfl | rfl | hd
    · have:=edg_in e (lo+2) d hd
      unfold InR at this
      omega
    · simp only [ep_src,ep_to,true_or,true_and]; omega
    · simp only [ep_src,ep_to]; omega
    · simp only [ep_src,ep_to]; omega
    · have:=ih (lo+2+nst e) (by omega) d hd
      omega
theorem cEdg_off {es:List Ex} {lo s:Nat} (h1:1≤lo) (h:(s<lo∧s≠0)∨lo+cN es≤s):outL (cEdg es lo) s=[] :=
  outL_none fun d hd=>by have:=cEdg_in es lo h1 d hd; omega
theorem cEdg_zero (es:List Ex):∀ lo,1≤lo→outL (cEdg es lo) 0=(cStart es lo).map Tr.eps:=by
  induction es with
  | nil=>intro lo _; rfl
  | cons e es ih =>
    intro lo h1
    have hl:=lst_lt e (lo+2)
    simp only [cEdg,cStart,outL_append,outL_ep,List.map_cons,if_true]
    rw [edg_off (by omega),if_neg (by omega),if_neg (by omega),ih _ (by omega)]; rfl
structure Blk (out:Nat→List Tr) (K A Ru:Nat→Nat) (r:Nat) (e:Ex) (lo:Nat):Prop where
  start:out lo=[.eps (fstS e (lo+2))]
  laid:Laid out (edg e (lo+2)) (lo+2) (lo+2+nst e) (lstS e (lo+2))
  last:out (lstS e (lo+2))=[.eps (lo+1)]
  stop:out (lo+1)=[]
  kstart:K lo=2
  kstop:K (lo+1)=7
  kin:Kin K A (sts e (lo+2)) (lo+2)
  rule:∀ s,lo≤s→s<lo+2+nst e→Ru s=r
theorem blks (es:List Ex):∀ (out:Nat→List Tr) (K A Ru:Nat→Nat) (r0 lo:Nat),1≤lo→(∀ s,lo≤s→s<lo+cN es→out s=outL (cEdg es lo) s) →
    (∀ i k r a,(cSts es r0 lo)[i]? = some (k,r,a)→K (lo+i)=k∧Ru (lo+i)=r∧A (lo+i)=a) →
    (∀ (r:Nat) e,es[r]? = some e→∃ lo',(cStart es lo)[r]? = some lo'∧lo≤lo'∧lo'+2+nst e≤lo+cN es∧Blk out K A Ru (r0+r) e lo') ∧
    ∀ s,lo≤s→s<lo+cN es→∃ (r:Nat) (e:Ex) (lo':Nat),es[r]? = some e∧(cStart es lo)[r]? = some lo'∧lo'≤s∧s<lo'+2+nst e:=by
  induction es with
  | nil=>intro out K A Ru r0 lo _ _ _; exact ⟨by simp,fun s h1 h2=>by simp [cN] at h2; omega⟩
  | cons e es ih =>
    intro out K A Ru r0 lo h1 ho hk
    have hf:=fst_lt e (lo+2)
    have hl:=lst_lt e (lo+2)
    simp only [cN] at ho ⊢
    have hlen:((sts e (lo+2)).map fun x=>(x.1,r0,x.2)).length=nst e:=by rw [List.length_map,sts_len]
    obtain ⟨i1,i2⟩:=ih out K A Ru (r0+1) (lo+2+nst e) (by omega) (fun s g1 g2=>by
      rw [ho s (by omega) (by omega)]
      simp only [cEdg,outL_append,outL_ep]
      rw [edg_off (by omega),if_neg (by omega),if_neg (by omega),if_neg (by omega),List.nil_append]) (fun i k r a hi=>by
      have:=hk (2+nst e+i) k r a (by
        simp only [cSts,List.cons_append]
        rw [show 2+nst e+i=(nst e+i)+1+1 from by omega,List.getElem?_cons_succ,List.getElem?_cons_succ,List.getElem?_append_right (by omega),hlen,Nat.add_sub_cancel_left]
        exact hi)
      rwa [show lo+2+nst e+i=lo+(2+nst e+i) from by omega])
    have hblk:Blk out K A Ru r0 e lo:=by
      refine ⟨?_,?_,?_,?_,?_,?_,?_,?_⟩
      · rw [ho lo (by omega) (by omega)]
        simp only [cEdg,outL_append,outL_ep,if_true]
        rw [edg_off (by omega),if_neg (by omega),if_neg (by omega),cEdg_off (by omega) (by omega)]; rfl
      · intro s g1 g2 g3
        rw [ho s (by omega) (by omega)]
        simp only [cEdg,outL_append,outL_ep]
        rw [if_neg (by omega),if_neg (by omega),if_neg (by omega),cEdg_off (by omega) (by omega),List.append_nil]
      · rw [ho _ (by omega) (by omega)]
        simp only [cEdg,outL_append,outL_ep,if_true]
        rw [edg_off (by omega),if_neg (by omega),if_neg (by omega),cEdg_off (by omega) (by omega)]; rfl
      · rw [ho (lo+1) (by omega) (by omega)]
        simp only [cEdg,outL_append,outL_ep]
        rw [edg_off (by omega),if_neg (by omega),if_neg (by omega),if_neg (by omega),cEdg_off (by omega) (by omega)]; rfl
      · exact (hk 0 2 r0 0 (by simp [cSts])).1
      · exact (hk 1 7 r0 0 (by simp [cSts])).1
      · intro i k a hi
        have:=hk (2+i) k r0 a (by
          simp only [cSts,List.cons_append]
          rw [show 2+i=i+1+1 from by omega,List.getElem?_cons_succ,List.getElem?_cons_succ,List.getElem?_append_left (by rw [hlen]; have:=(List.getElem?_eq_some_iff.1 hi).1; rw [sts_len] at this; exact this),List.getElem?_map,hi]; rfl)
        rw [← Nat.add_assoc] at this
        exact ⟨this.1,this.2.2⟩
      · intro s g1 g2
        by_cases c0:s=lo
        · subst c0; exact (hk 0 2 r0 0 (by simp [cSts])).2.1
        by_cases c1:s=lo+1
        · subst c1; exact (hk 1 7 r0 0 (by simp [cSts])).2.1
        · have hlt:s - (lo+2)<(sts e (lo+2)).length:=by rw [sts_len]; omega
          have:=hk (2+(s - (lo+2))) ((sts e (lo+2))[s - (lo+2)]).1 r0 ((sts e (lo+2))[s - (lo+2)]).2 (by
            simp only [cSts,List.cons_append]
            rw [show 2+(s - (lo+2))=(s - (lo+2))+1+1 from by omega,List.getElem?_cons_succ,List.getElem?_cons_succ,List.getElem?_append_left (by rw [hlen]; omega),List.getElem?_map,List.getElem?_eq_getElem hlt]; rfl)
          rw [show lo+(2+(s - (lo+2)))=s from by omega] at this
          exact this.2.1
    refine ⟨fun r e' hr => ?_,fun s g1 g2 => ?_⟩
    · cases r with
      | zero =>
        simp at hr
        subst hr
        exact ⟨lo,by simp [cStart],Nat.le_refl _,by omega,hblk⟩
      | succ r =>
        simp at hr
        obtain ⟨lo',j1,j2,j3,j4⟩:=i1 r e' hr
        exact ⟨lo',by simp [cStart,j1],by omega,by omega,by rw [show r0+(r+1)=r0+1+r from by omega]; exact j4⟩
    · by_cases hs:s<lo+2+nst e
      · exact ⟨0,e,lo,by simp,by simp [cStart],g1,hs⟩
      · obtain ⟨r,e',lo',j1,j2,j3,j4⟩:=i2 s (by omega) (by omega)
        exact ⟨r+1,e',lo',by simp [j1],by simp [cStart,j2],j3,j4⟩
def nOut (rules:List Ex) (s:Nat):List Tr:=outL (cEdg rules 1) s
def nSts (rules:List Ex):List (Nat × Nat × Nat):=(6,0,0)::cSts rules 0 1
def nK (rules:List Ex) (s:Nat):Nat:=((nSts rules).getD s (0,0,0)).1
def nRu (rules:List Ex) (s:Nat):Nat:=((nSts rules).getD s (0,0,0)).2.1
def nA (rules:List Ex) (s:Nat):Nat:=((nSts rules).getD s (0,0,0)).2.2
def nStop (rules:List Ex) (s:Nat):Bool:=nK rules s == 7
def nKind (rules:List Ex) (s:Nat):Int:=nRu rules s+1
theorem nBlks (rules:List Ex) :
    (∀ (r:Nat) e,rules[r]? = some e→∃ lo,(cStart rules 1)[r]? = some lo∧1≤lo∧lo+2+nst e≤1+cN rules∧Blk (nOut rules) (nK rules) (nA rules) (nRu rules) r e lo) ∧
    ∀ s,1≤s→s<1+cN rules→∃ (r:Nat) (e:Ex) (lo:Nat),rules[r]? = some e∧(cStart rules 1)[r]? = some lo∧lo≤s∧s<lo+2+nst e:=by
  have:=blks rules (nOut rules) (nK rules) (nA rules) (nRu rules) 0 1 (by omega) (fun s _ _=>rfl) (fun i k r a hi=>by
    have h:(nSts rules).getD (1+i) (0,0,0)=(k,r,a):=by
      rw [nSts,Nat.add_comm,List.getD_eq_getElem?_getD,List.getElem?_cons_succ,hi]; rfl
    simp only [nK,nRu,nA,h,and_self])
  simpa using this
theorem nOut_zero (rules:List Ex):nOut rules 0=(cStart rules 1).map Tr.eps:=cEdg_zero rules 1 (by omega)
theorem nOut_off {rules:List Ex} {s:Nat} (h:1+cN rules≤s):nOut rules s=[]:=cEdg_off (by omega) (.inr h)
def GoodR (rules:List Ex):Prop:=∀ e ∈ rules,(∃ d,good d e=true)∧empty e=false∧loops e=false
section
variable {rules:List Ex}
theorem nCases (hg:GoodR rules) {s:Nat} (h1:1≤s) (h2:s<1+cN rules) :
    ∃ (r:Nat) (e:Ex) (lo:Nat),rules[r]? = some e∧(cStart rules 1)[r]? = some lo∧1≤lo∧lo+2+nst e≤1+cN rules∧Blk (nOut rules) (nK rules) (nA rules) (nRu rules) r e lo ∧
      (s=lo∨s=lo+1∨(lo+2≤s∧s<lo+2+nst e∧NodeOk (nK rules) (nA rules) (nOut rules) s)):=by
  obtain ⟨r,e,lo,he,hlo,g1,g2⟩:=(nBlks rules).2 s h1 h2
  obtain ⟨lo',hlo',g3,g4,hb⟩:=(nBlks rules).1 r e he
  rw [hlo] at hlo'
  obtain rfl:lo=lo':=by simpa using hlo'
  refine ⟨r,e,lo,he,hlo,g3,g4,hb,?_⟩
  by_cases c0:s=lo
  · exact .inl c0
  by_cases c1:s=lo+1
  · exact .inr (.inl c1)
  · obtain ⟨⟨d,hd⟩,_⟩:=hg e (List.mem_of_getElem? he)
    exact .inr (.inr ⟨by omega,g2,node_all e d hd _ _ _ (lo+2) (by omega) hb.kin hb.laid ⟨_,hb.last⟩ s (by omega) g2⟩)
theorem nPlain (hg:GoodR rules):Plain (nOut rules):=by
  intro s
  by_cases h0:s=0
  · subst h0
    rw [nOut_zero]
    cases e:cStart rules 1 with
    | nil=>exact .inl rfl
    | cons x l=>exact .inr (.inl (by simp [epsOnly,Tr.isEps]))
  · by_cases h:s<1+cN rules
    · obtain ⟨r,e,lo,_,_,_,_,hb,hc⟩:=nCases hg (by omega) h
      rcases hc with rfl | rfl | ⟨_,_,hn⟩
      · exact .inr (.inl (by rw [hb.start]; rfl))
      · exact .inl hb.stop
      · exact .inr hn.outs
    · exact .inl (nOut_off (by omega))
theorem nFin (hg:GoodR rules) {s:Nat} (h1:1≤s):Fin' (nOut rules) s:=by
  by_cases h:s<1+cN rules
  · obtain ⟨r,e,lo,he,_,_,_,hb,hc⟩:=nCases hg h1 h
    obtain ⟨⟨d,hd⟩,_,hlo⟩:=hg e (List.mem_of_getElem? he)
    have f1:Fin' (nOut rules) (lo+1):=fin_list hb.stop (by simp)
    have fa:=(fin_all e d hd hlo (nOut rules) (lo+2) hb.laid).1 (fin_one hb.last f1)
    have hf:=fst_lt e (lo+2)
    rcases hc with rfl | rfl | ⟨g1,g2,_⟩
    · exact fin_one hb.start (fa _ hf.1 hf.2)
    · exact f1
    · exact fa s g1 g2
  · exact fin_list (nOut_off (by omega)) (by simp)
theorem nDep (hg:GoodR rules):∃ n,∀ s,1≤s→Dep (nOut rules) n s:=by
  have key:∀ m,∃ n,∀ s,1≤s→s<m→Dep (nOut rules) n s:=by
    intro m
    induction m with
    | zero=>exact ⟨0,by omega⟩
    | succ m ih =>
      obtain ⟨n,hn⟩:=ih
      by_cases hm:1≤m
      · obtain ⟨k,hk⟩:=nFin hg hm
        refine ⟨max n k,fun s h1 h2 => ?_⟩
        by_cases e:s=m
        · subst e; exact hk.mono (by omega)
        · exact (hn s h1 (by omega)).mono (by omega)
      · exact ⟨0,by omega⟩
  obtain ⟨n,hn⟩:=key (1+cN rules)
  refine ⟨n+1,fun s h1 => ?_⟩
  by_cases h:s<1+cN rules
  · exact (hn s h1 h).mono (by omega)
  · intro he; rw [nOut_off (by omega)] at he; simp [epsOnly] at he
theorem nTo {s:Nat} {tr:Tr} (h:tr ∈ nOut rules s):1≤tr.to∧tr.to<1+cN rules:=by
  unfold nOut outL at h
  obtain ⟨d,hd,rfl⟩:=List.mem_map.1 h
  have:=cEdg_in rules 1 (by omega) d (List.mem_filter.1 hd).1
  have:d.tr.to=d.to:=by unfold Ed.tr; (repeat' split) <;> rfl
  omega
theorem nFit (hg:GoodR rules) {n:Nat} (hn:∀ s,1≤s→Dep (nOut rules) n s):Fit (nOut rules) n (nStop rules) (nKind rules) rules where
  plain:=nPlain hg
  zero:=fun tr htr=>by
    refine ⟨?_,hn _ (nTo htr).1⟩
    rw [nOut_zero] at htr
    obtain ⟨x,_,rfl⟩:=List.mem_map.1 htr
    rfl
  dep:=fun s a b q h=>hn q (nTo h).1
  rul := {
    start:=fun r e he=>by
      obtain ⟨lo,h1,h2,h3,hb⟩:=(nBlks rules).1 r e he
      refine ⟨lo,fstS e (lo+2),lstS e (lo+2),lo+1,?_,hb.start,lays_all e _ _ hb.laid,hb.last,hb.stop,?_,?_⟩
      · rw [nOut_zero,List.getElem?_map,h1]; rfl
      · simp [nStop,hb.kstop]
      · have:=hb.rule (lo+1) (by omega) (by omega)
        simp [nKind,this]
    only:=fun r st h=>by
      rw [nOut_zero,List.getElem?_map] at h
      cases e:(cStart rules 1)[r]? with
      | none=>rw [e] at h; cases h
      | some x =>
        have:=(List.getElem?_eq_some_iff.1 e).1
        rwa [cStart_len] at this
    good:=fun e he=>(hg e he).1
    ends:=fun s hs=>by
      simp only [nStop,beq_iff_eq] at hs
      by_cases h0:s=0
      · subst h0; simp [nK,nSts] at hs
      by_cases h:s<1+cN rules
      · obtain ⟨r,e,lo,_,_,_,_,hb,hc⟩:=nCases hg (by omega) h
        rcases hc with rfl | rfl | ⟨_,_,hn⟩
        · rw [hb.kstart] at hs; omega
        · exact hb.stop
        · have:=hn.kind; omega
      · exact nOut_off (by omega) }
theorem empty_row {t:List Nat} : ∀ ss:List Ex,(∀ s ∈ ss,∀ i,R t s i i→empty s=true)→∀ i,RRow t ss i i→allEmpty ss=true
  | [],_,_,_=>rfl
  | s::ss,hs,i,h=>by
    simp only [RRow] at h
    obtain ⟨k,h1,h2⟩:=h
    have a:=(R_le s i k h1).1
    have b:=(R_row_le ss (fun s _=>R_le s) k i h2).1
    obtain rfl:i=k:=by omega
    simp only [allEmpty,hs s (by simp) i h1,empty_row ss (fun s h=>hs s (by simp [h])) i h2,Bool.and_self]
theorem empty_alt {t:List Nat} : ∀ ss:List Ex,(∀ s ∈ ss,∀ i,R t s i i→empty s=true)→∀ i,RAlt t ss i i→anyEmpty ss=true
  | [],_,_,h=>by simp [RAlt] at h
  | s::ss,hs,i,h=>by
    simp only [RAlt] at h
    simp only [anyEmpty,Bool.or_eq_true]
    rcases h with h | h
    · exact .inl (hs s (by simp) i h)
    · exact .inr (empty_alt ss (fun s h=>hs s (by simp [h])) i h)
theorem empty_of {t:List Nat} : ∀ (e:Ex) (i:Nat),R t e i i→empty e=true:=by
  intro e
  induction e using Ex.ind with
  | h op a b ss ih =>
    intro i h
    simp only [R] at h
    simp only [empty]
    by_cases h0:op=0
    · rw [if_pos h0] at h; omega
    rw [if_neg h0] at h ⊢
    by_cases h1:op=1
    · subst h1; simp only [if_true] at h; simpa using empty_row ss ih i h
    rw [if_neg h1] at h
    by_cases h2:op=2
    · subst h2; simp only [if_true] at h; simpa using empty_alt ss ih i h
    rw [if_neg h2] at h
    by_cases h5:op=5
    · simp [h5]
    rw [if_neg h5] at h
    by_cases h3:op=3
    · simp [h3]
    rw [if_neg h3] at h
    obtain ⟨k,k1,k2⟩:=h
    have a:=(R_alt_le ss (fun s _=>R_le s) i k k1).1
    have b:=(many_le (R_alt_le ss (fun s _=>R_le s)) k2).1
    obtain rfl:i=k:=by omega
    rw [if_neg (by omega),if_neg h1]
    exact empty_alt ss ih i k1
theorem nPos (hg:GoodR rules) (t:List Nat) (r i j:Nat) (h:Mt rules t r i j):i<j:=by
  obtain ⟨e,he,hR⟩:=h
  have h1:=(R_le e i j hR).1
  rcases Nat.lt_or_ge i j with h2 | h2
  · exact h2
  · obtain rfl:i=j:=by omega
    have:=empty_of e i hR
    rw [(hg e (List.mem_of_getElem? he)).2.1] at this
    cases this
end
end Lx
end
