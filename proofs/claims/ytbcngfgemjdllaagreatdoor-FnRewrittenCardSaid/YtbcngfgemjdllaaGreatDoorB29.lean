/- Part 29: Pl17, X1. -/
import Derived.Test.YtbcngfgemjdllaaGreatDoorB16
import Derived.Test.YtbcngfgemjdllaaGreatDoorB23
set_option linter.unusedVariables false
set_option linter.unusedSimpArgs false
section
namespace Lx
section
variable {rules:List Ex}
theorem nSt_get {i:Nat} (h:i<1+cN rules):(nSts rules)[i]? = some (nK rules i,nRu rules i,nA rules i):=by
  have hl:i<(nSts rules).length:=by rw [nSts,List.length_cons,cSts_len]; omega
  unfold nK nRu nA
  rw [List.getD_eq_getElem?_getD,List.getElem?_eq_getElem hl]
  rfl
theorem nSt_len:(nSts rules).length=1+cN rules:=by rw [nSts,List.length_cons,cSts_len]; omega
theorem nK_zero:nK rules 0=6:=rfl
theorem nRu_zero:nRu rules 0=0:=rfl
theorem nK_lt {s:Nat} (h:nK rules s≠0):s<1+cN rules:=by
  rw [← nSt_len (rules:=rules)]
  rcases Nat.lt_or_ge s (nSts rules).length with h1 | h1
  · exact h1
  · exfalso; apply h
    unfold nK
    rw [List.getD_eq_getElem?_getD,List.getElem?_eq_none_iff.2 h1]; rfl
theorem nK_ok (hg:GoodR rules) {s:Nat} (h:s<1+cN rules):1≤nK rules s∧nK rules s≤12:=by
  by_cases h0:s=0
  · subst h0; rw [nK_zero]; omega
  · obtain ⟨r,e,lo,_,_,_,_,hb,hc⟩:=nCases hg (by omega) h
    rcases hc with rfl | rfl | ⟨_,_,hn⟩
    · rw [hb.kstart]; omega
    · rw [hb.kstop]; omega
    · have:=hn.kind; omega
theorem nRu_lt (hg:GoodR rules) {s:Nat} (h1:1≤s) (h:s<1+cN rules):nRu rules s<rules.length:=by
  obtain ⟨r,e,lo,he,hlo,g1,g2,hb,hc⟩:=nCases hg h1 h
  have hr:nRu rules s=r:=hb.rule s (by omega) (by omega)
  rw [hr]; exact (List.getElem?_eq_some_iff.1 he).1
theorem nNode (hg:GoodR rules) {s:Nat} (h0:nK rules s≠0) (h2:nK rules s≠2) (h6:nK rules s≠6) (h7:nK rules s≠7):1≤s∧NodeOk (nK rules) (nA rules) (nOut rules) s:=by
  have hlt:=nK_lt h0
  have h1:1≤s:=by
    rcases Nat.eq_zero_or_pos s with h | h
    · subst h; exact absurd nK_zero h6
    · exact h
  refine ⟨h1,?_⟩
  obtain ⟨r,e,lo,_,_,_,_,hb,hc⟩:=nCases hg h1 hlt
  rcases hc with rfl | rfl | ⟨_,_,hn⟩
  · exact absurd hb.kstart h2
  · exact absurd hb.kstop h7
  · exact hn
theorem nBlk (hg:GoodR rules) {s:Nat} (h:nK rules s=3∨nK rules s=4∨nK rules s=5):nA rules s=s+1∧nK rules (s+1)=8 :=
  (nNode hg (by omega) (by omega) (by omega) (by omega)).2.blk h
def EndE (e:Ex):Prop:=∀ (K A:Nat→Nat) (lo:Nat),Kin K A (sts e lo) lo→∀ s,lo≤s→s<lo+nst e→K s=12→K (A s)=9∨K (A s)=11
theorem end_list:∀ (ss:List Ex),(∀ s ∈ ss,EndE s)→∀ (K A:Nat→Nat) (lo:Nat),Kin K A (stss ss lo) lo→∀ s,lo≤s→s<lo+nsts ss→K s=12→K (A s)=9∨K (A s)=11
  | [],_,K,A,lo,_,s,h1,h2,_=>by simp [nsts] at h2; omega
  | e::ss,he,K,A,lo,hk,s,h1,h2,h3=>by
    simp only [stss] at hk
    simp only [nsts] at h2
    by_cases hs:s<lo+nst e
    · exact he e (by simp) K A lo hk.left s h1 hs h3
    · exact end_list ss (fun x hx=>he x (by simp [hx])) K A (lo+nst e) (hk.right (sts_len e lo)) s (by omega) (by omega) h3
theorem end_all:∀ e,EndE e:=by
  intro e
  induction e using Ex.ind with
  | h op a b ss ih =>
    intro K A lo hk s h1 h2 h3
    simp only [sts] at hk
    simp only [nst] at h2
    by_cases h0:op=0
    · simp only [if_pos h0] at hk h2
      have k0:=hk.head.1
      have k1:=hk.tail.head.1
      exfalso
      rcases (by omega:s=lo∨s=lo+1) with rfl | rfl <;> omega
    simp only [if_neg h0] at hk h2
    by_cases h1':op=1
    · simp only [if_pos h1'] at hk h2
      have k0:=hk.head.1
      have kl:=hk.tail.left
      have kr:=(hk.tail.right (stss_len ss (fun s _=>sts_len s) (lo+1))).head.1
      by_cases e0:s=lo
      · subst e0; omega
      by_cases e1:s=lo+1+nsts ss
      · subst e1; omega
      exact end_list ss ih K A (lo+1) kl s (by omega) (by omega) h3
    simp only [if_neg h1'] at hk h2
    by_cases h2':op=2
    · simp only [if_pos h2'] at hk h2
      have k0:=hk.head.1
      have k1:=hk.tail.head.1
      by_cases e0:s=lo
      · subst e0; omega
      by_cases e1:s=lo+1
      · subst e1; omega
      exact end_list ss ih K A (lo+2) hk.tail.tail s (by omega) (by omega) h3
    simp only [if_neg h2'] at hk h2
    by_cases h5:op=5
    · simp only [if_pos h5] at hk h2
      have k0:=hk.head.1
      have k1:=hk.tail.head.1
      by_cases e0:s=lo
      · subst e0; omega
      by_cases e1:s=lo+1
      · subst e1; omega
      exact end_list ss ih K A (lo+2) hk.tail.tail s (by omega) (by omega) h3
    simp only [if_neg h5] at hk h2
    by_cases h3':op=3
    · simp only [if_pos h3'] at hk h2
      have k0:=hk.head
      have k1:=hk.tail.head.1
      have k2:=hk.tail.tail.head.1
      have k3:=hk.tail.tail.tail.head.1
      have k4:=hk.tail.tail.tail.tail.head.1
      by_cases e0:s=lo
      · subst e0; left; rw [k0.2]; exact k2
      by_cases e1:s=lo+1
      · subst e1; omega
      by_cases e2:s=lo+1+1
      · subst e2; omega
      by_cases e3:s=lo+1+1+1
      · subst e3; omega
      by_cases e4:s=lo+1+1+1+1
      · subst e4; omega
      exact end_list ss ih K A (lo+5) hk.tail.tail.tail.tail.tail s (by omega) (by omega) h3
    · simp only [if_neg h3'] at hk h2
      have k0:=hk.head
      have k1:=hk.tail.head.1
      have k2:=hk.tail.tail.head.1
      have k3:=hk.tail.tail.tail.head.1
      by_cases e0:s=lo
      · subst e0; right; rw [k0.2]; exact k1
      by_cases e1:s=lo+1
      · subst e1; omega
      by_cases e2:s=lo+1+1
      · subst e2; omega
      by_cases e3:s=lo+1+1+1
      · subst e3; omega
      exact end_list ss ih K A (lo+4) hk.tail.tail.tail.tail s (by omega) (by omega) h3
theorem nEnd (hg:GoodR rules) {s:Nat} (h:nK rules s=12):nA rules s<1+cN rules:=by
  obtain ⟨h1,_⟩:=nNode hg (s:=s) (by omega) (by omega) (by omega) (by omega)
  have hlt:=nK_lt (rules:=rules) (s:=s) (by omega)
  obtain ⟨r,e,lo,_,_,_,_,hb,hc⟩:=nCases hg h1 hlt
  rcases hc with rfl | rfl | ⟨g1,g2,hn⟩
  · rw [hb.kstart] at h; omega
  · rw [hb.kstop] at h; omega
  · have:=end_all e (nK rules) (nA rules) (lo+2) hb.kin s g1 g2 h
    exact nK_lt (by omega)
def DecE (e:Ex):Prop:=∀ (K A:Nat→Nat) (lo:Nat),Kin K A (sts e lo) lo→∀ s ∈ dcs e lo,K s=3∨K s=4∨K s=5∨K s=10∨K s=11
theorem dec_list:∀ (ss:List Ex),(∀ s ∈ ss,DecE s)→∀ (K A:Nat→Nat) (lo:Nat),Kin K A (stss ss lo) lo→∀ s ∈ dcss ss lo,K s=3∨K s=4∨K s=5∨K s=10∨K s=11
  | [],_,K,A,lo,_,s,h=>by simp [dcss] at h
  | e::ss,he,K,A,lo,hk,s,h=>by
    simp only [stss] at hk
    simp only [dcss,List.mem_append] at h
    rcases h with h | h
    · exact he e (by simp) K A lo hk.left s h
    · exact dec_list ss (fun x hx=>he x (by simp [hx])) K A (lo+nst e) (hk.right (sts_len e lo)) s h
theorem dec_all:∀ e,DecE e:=by
  intro e
  induction e using Ex.ind with
  | h op a b ss ih =>
    intro K A lo hk s h
    simp only [sts] at hk
    simp only [dcs] at h
    by_cases h0:op=0
    · simp [h0] at h
    simp only [if_neg h0] at hk h
    by_cases h1':op=1
    · simp only [if_pos h1'] at hk h
      exact dec_list ss ih K A (lo+1) hk.tail.left s h
    simp only [if_neg h1'] at hk h
    by_cases h2':op=2
    · simp only [if_pos h2',List.mem_append,List.mem_singleton] at hk h
      rcases h with h | rfl
      · exact dec_list ss ih K A (lo+2) hk.tail.tail s h
      · exact .inl hk.head.1
    simp only [if_neg h2'] at hk h
    by_cases h5:op=5
    · simp only [if_pos h5,List.mem_append,List.mem_singleton] at hk h
      rcases h with h | rfl
      · exact dec_list ss ih K A (lo+2) hk.tail.tail s h
      · exact .inl hk.head.1
    simp only [if_neg h5] at hk h
    by_cases h3':op=3
    · simp only [if_pos h3',List.mem_append,List.mem_cons,List.not_mem_nil,or_false] at hk h
      rcases h with h | rfl | rfl
      · exact dec_list ss ih K A (lo+5) hk.tail.tail.tail.tail.tail s h
      · have:K (lo+3)=5:=hk.tail.tail.tail.head.1
        omega
      · have:K (lo+1)=10:=hk.tail.head.1
        omega
    · simp only [if_neg h3',List.mem_append,List.mem_cons,List.not_mem_nil,or_false] at hk h
      rcases h with h | rfl | rfl
      · exact dec_list ss ih K A (lo+4) hk.tail.tail.tail.tail s h
      · have:K (lo+2)=4:=hk.tail.tail.head.1
        omega
      · have:K (lo+1)=11:=hk.tail.head.1
        omega
theorem cDec_mem:∀ (es:List Ex) (lo s:Nat),s ∈ cDec es lo→∃ (r:Nat) (e:Ex) (lo':Nat),es[r]? = some e∧(cStart es lo)[r]? = some lo'∧s ∈ dcs e (lo'+2)
  | [],lo,s,h=>by simp [cDec] at h
  | e :: es, lo, s, h => by
    simp only [cDec,List.mem_append] at h
    rcases h with h | h
    · exact ⟨0,e,lo,rfl,rfl,h⟩
    · obtain ⟨r,e',lo',h1,h2,h3⟩:=cDec_mem es _ s h
      exact ⟨r+1,e',lo',by simpa using h1,by simpa [cStart] using h2,h3⟩
theorem nDec {s:Nat} (h:s ∈ 0::cDec rules 1):nK rules s=3∨nK rules s=4∨nK rules s=5∨nK rules s=6∨nK rules s=10∨nK rules s=11:=by
  rcases List.mem_cons.1 h with rfl | h
  · rw [nK_zero]; omega
  · obtain ⟨r,e,lo,h1,h2,h3⟩:=cDec_mem rules 1 s h
    obtain ⟨lo',g1,_,_,hb⟩:=(nBlks rules).1 r e h1
    rw [h2] at g1
    obtain rfl:lo=lo':=by simpa using g1
    have:=dec_all e (nK rules) (nA rules) (lo+2) hb.kin s h3
    omega
def EdgE (d:Ed):Prop:=(d.kind=1∨d.kind=2∨d.kind=5)∧0≤d.a1∧d.a1≤127∧0≤d.a2∧d.a2≤127
theorem edgE_ep (s q:Nat):EdgE (ep s q):=by unfold EdgE ep; simp
theorem edgE_row:∀ (ss:List Ex),(∀ s ∈ ss,∀ lo,∀ d ∈ edg s lo,EdgE d)→∀ lo p,∀ d ∈ edgRow ss lo p,EdgE d
  | [],_,lo,p,d,hd=>by simp only [edgRow,List.mem_singleton] at hd; subst hd; exact edgE_ep _ _
  | s::ss,hs,lo,p,d,hd=>by
    simp only [edgRow,List.mem_append,List.mem_cons] at hd
    rcases hd with hd | rfl | hd
    · exact hs s (by simp) lo d hd
    · exact edgE_ep _ _
    · exact edgE_row ss (fun x hx=>hs x (by simp [hx])) _ _ d hd
theorem edgE_alt:∀ (ss:List Ex),(∀ s ∈ ss,∀ lo,∀ d ∈ edg s lo,EdgE d)→∀ lo st sp,∀ d ∈ edgAlt ss lo st sp,EdgE d
  | [],_,lo,st,sp,d,hd=>by simp [edgAlt] at hd
  | s::ss,hs,lo,st,sp,d,hd=>by
    simp only [edgAlt,List.mem_append,List.mem_cons] at hd
    rcases hd with hd | rfl | rfl | hd
    · exact hs s (by simp) lo d hd
    · exact edgE_ep _ _
    · exact edgE_ep _ _
    · exact edgE_alt ss (fun x hx=>hs x (by simp [hx])) _ _ _ d hd
theorem edgE_all:∀ (e:Ex) (k:Nat),good k e=true→∀ lo,∀ d ∈ edg e lo,EdgE d:=by
  intro e
  induction e using Ex.ind with
  | h op a b ss ih =>
    intro k hg lo d hd
    cases k with
    | zero=>simp [good] at hg
    | succ k =>
      simp only [good,Bool.and_eq_true,List.all_eq_true,decide_eq_true_eq] at hg
      obtain ⟨_,hs,hk⟩:=hg
      have hE:∀ s ∈ ss,∀ lo,∀ d ∈ edg s lo,EdgE d:=fun s h lo d hd=>ih s h k (hs s h) lo d hd
      simp only [edg] at hd
      by_cases h0:op=0
      · subst h0
        simp only [kindOk,if_true,Bool.and_eq_true,decide_eq_true_eq] at hk
        simp only [if_true,List.mem_singleton] at hd
        subst hd
        unfold ch
        split
        · unfold EdgE; simp; omega
        · unfold EdgE; simp; omega
      simp only [if_neg h0] at hd
      by_cases h1:op=1
      · simp only [if_pos h1] at hd; exact edgE_row ss hE _ _ d hd
      simp only [if_neg h1] at hd
      by_cases h2:op=2
      · simp only [if_pos h2] at hd; exact edgE_alt ss hE _ _ _ d hd
      simp only [if_neg h2] at hd
      by_cases h5:op=5
      · simp only [if_pos h5,List.mem_append,List.mem_singleton] at hd
        rcases hd with hd | rfl
        · exact edgE_alt ss hE _ _ _ d hd
        · exact edgE_ep _ _
      simp only [if_neg h5] at hd
      by_cases h3:op=3
      · simp only [if_pos h3,List.mem_append,List.mem_cons,List.not_mem_nil,or_false] at hd
        rcases hd with hd | rfl | rfl | rfl | rfl
        · exact edgE_alt ss hE _ _ _ d hd
        all_goals exact edgE_ep _ _
      · simp only [if_neg h3,List.mem_append,List.mem_cons,List.not_mem_nil,or_false] at hd
        rcases hd with hd | rfl | rfl | rfl
        · exact edgE_alt ss hE _ _ _ d hd
        all_goals exact edgE_ep _ _
theorem cEdgE:∀ (es:List Ex),(∀ e ∈ es,∃ k,good k e=true)→∀ lo,∀ d ∈ cEdg es lo,EdgE d
  | [],_,lo,d,hd=>by simp [cEdg] at hd
  | e :: es, he, lo, d, hd => by
    simp only [cEdg,List.mem_append,List.mem_cons] at hd
    rcases hd with hd | rfl | rfl | rfl | hd
    · obtain ⟨k,hk⟩:=he e (by simp)
      exact edgE_all e k hk _ d hd
    · exact edgE_ep _ _
    · exact edgE_ep _ _
    · exact edgE_ep _ _
    · exact cEdgE es (fun x hx=>he x (by simp [hx])) _ d hd
theorem nEdg (hg:GoodR rules) {d:Ed} (h:d ∈ cEdg rules 1):EdgE d∧d.src<1+cN rules∧d.to<1+cN rules:=by
  have h1:=cEdg_in rules 1 (by omega) d h
  exact ⟨cEdgE rules (fun e he=>(hg e he).1) 1 d h,by omega,by omega⟩
def SymE (e:Ex):Prop:=∀ (K A:Nat→Nat) (lo:Nat),Kin K A (sts e lo) lo→∀ d ∈ edg e lo,d.kind≠1→K d.src=1
theorem ep_kind (s q:Nat):(ep s q).kind=1:=rfl
theorem sym_row:∀ (ss:List Ex),(∀ s ∈ ss,SymE s)→∀ (K A:Nat→Nat) (lo p:Nat),Kin K A (stss ss lo) lo→∀ d ∈ edgRow ss lo p,d.kind≠1→K d.src=1
  | [],_,K,A,lo,p,_,d,hd,hk=>by
    simp only [edgRow,List.mem_singleton] at hd
    subst hd; exact absurd (ep_kind _ _) hk
  | s::ss,hs,K,A,lo,p,hK,d,hd,hk=>by
    simp only [stss] at hK
    simp only [edgRow,List.mem_append,List.mem_cons] at hd
    rcases hd with hd | rfl | hd
    · exact hs s (by simp) K A lo hK.left d hd hk
    · exact absurd (ep_kind _ _) hk
    · exact sym_row ss (fun x hx=>hs x (by simp [hx])) K A _ _ (hK.right (sts_len s lo)) d hd hk
theorem sym_alt:∀ (ss:List Ex),(∀ s ∈ ss,SymE s)→∀ (K A:Nat→Nat) (lo st sp:Nat),Kin K A (stss ss lo) lo→∀ d ∈ edgAlt ss lo st sp,d.kind≠1→K d.src=1
  | [],_,K,A,lo,st,sp,_,d,hd,_=>by simp [edgAlt] at hd
  | s::ss,hs,K,A,lo,st,sp,hK,d,hd,hk=>by
    simp only [stss] at hK
    simp only [edgAlt,List.mem_append,List.mem_cons] at hd
    rcases hd with hd | rfl | rfl | hd
    · exact hs s (by simp) K A lo hK.left d hd hk
    · exact absurd (ep_kind _ _) hk
    · exact absurd (ep_kind _ _) hk
    · exact sym_alt ss (fun x hx=>hs x (by simp [hx])) K A _ _ _ (hK.right (sts_len s lo)) d hd hk
theorem sym_all:∀ e,SymE e:=by
  intro e
  induction e using Ex.ind with
  | h op a b ss ih =>
    intro K A lo hK d hd hk
    simp only [sts] at hK
    simp only [edg] at hd
    by_cases h0:op=0
    · simp only [if_pos h0,List.mem_singleton] at hK hd
      subst hd; rw [ch_src]; exact hK.head.1
    simp only [if_neg h0] at hK hd
    by_cases h1:op=1
    · simp only [if_pos h1] at hK hd
      exact sym_row ss ih K A (lo+1) lo hK.tail.left d hd hk
    simp only [if_neg h1] at hK hd
    by_cases h2:op=2
    · simp only [if_pos h2] at hK hd
      exact sym_alt ss ih K A (lo+2) lo (lo+1) hK.tail.tail d hd hk
    simp only [if_neg h2] at hK hd
    by_cases h5:op=5
    · simp only [if_pos h5,List.mem_append,List.mem_singleton] at hK hd
      rcases hd with hd | rfl
      · exact sym_alt ss ih K A (lo+2) lo (lo+1) hK.tail.tail d hd hk
      · exact absurd (ep_kind _ _) hk
    simp only [if_neg h5] at hK hd
    by_cases h3:op=3
    · simp only [if_pos h3,List.mem_append,List.mem_cons,List.not_mem_nil,or_false] at hK hd
      rcases hd with hd | rfl | rfl | rfl | rfl
      · exact sym_alt ss ih K A (lo+5) (lo+3) (lo+4) hK.tail.tail.tail.tail.tail d hd hk
      all_goals exact absurd (ep_kind _ _) hk
    · simp only [if_neg h3,List.mem_append,List.mem_cons,List.not_mem_nil,or_false] at hK hd
      rcases hd with hd | rfl | rfl | rfl
      · exact sym_alt ss ih K A (lo+4) (lo+2) (lo+3) hK.tail.tail.tail.tail d hd hk
      all_goals exact absurd (ep_kind _ _) hk
theorem cEdg_mem:∀ (es:List Ex) (lo:Nat) (d:Ed),d ∈ cEdg es lo→d.kind≠1→∃ (r:Nat) (e:Ex) (lo':Nat),es[r]? = some e∧(cStart es lo)[r]? = some lo'∧d ∈ edg e (lo'+2)
  | [],lo,d,h,_=>by simp [cEdg] at h
  | e :: es, lo, d, h, hk => by
    simp only [cEdg,List.mem_append,List.mem_cons] at h
    rcases h with h | rfl | rfl | rfl | h
    · exact ⟨0,e,lo,rfl,rfl,h⟩
    · exact absurd (ep_kind _ _) hk
    · exact absurd (ep_kind _ _) hk
    · exact absurd (ep_kind _ _) hk
    · obtain ⟨r,e',lo',h1,h2,h3⟩:=cEdg_mem es _ d h hk
      exact ⟨r+1,e',lo',by simpa using h1,by simpa [cStart] using h2,h3⟩
theorem nSym {s a':Nat} {x y:Int} (h:nOut rules s=[.sym x y a']):nK rules s=1:=by
  have hm:Tr.sym x y a' ∈ nOut rules s:=by rw [h]; simp
  unfold nOut outL at hm
  obtain ⟨d,hd,he⟩:=List.mem_map.1 hm
  obtain ⟨h1,h2⟩:=List.mem_filter.1 hd
  have hk:d.kind≠1:=fun e=>by
    unfold Ed.tr at he
    rw [if_pos e] at he; cases he
  obtain ⟨r,e,lo,g1,g2,g3⟩:=cEdg_mem rules 1 d h1 hk
  obtain ⟨lo',g4,_,_,hb⟩:=(nBlks rules).1 r e g1
  rw [g2] at g4
  obtain rfl:lo=lo':=by simpa using g4
  have:=sym_all e (nK rules) (nA rules) (lo+2) hb.kin d g3 hk
  rw [← this]
  have:d.src=s:=by simpa using h2
  rw [this]
theorem nFew2 (hg:GoodR rules) (hne:0<rules.length) {s:Nat} (hs:s<1+cN rules) (h1:nK rules s≠1) (h7:nK rules s≠7):epsOnly (nOut rules s)=true:=by
  rcases nPlain hg s with h | h | ⟨a,b,q,h⟩
  · exfalso
    by_cases h0:s=0
    · subst h0
      rw [nOut_zero] at h
      have:rules.length=0:=by rw [← cStart_len rules 1,← List.length_map (f:=Tr.eps),h]; rfl
      omega
    · obtain ⟨r,e,lo,_,_,_,_,hb,hc⟩:=nCases hg (by omega) hs
      rcases hc with rfl | rfl | ⟨_,_,hn⟩
      · rw [hb.start] at h; cases h
      · exact h7 hb.kstop
      · rcases hn.outs with h2 | ⟨a,b,q,h2⟩
        · rw [h] at h2; simp [epsOnly] at h2
        · rw [h] at h2; cases h2
  · exact h
  · exact absurd (nSym h) h1
def NoA (x:Nat × Nat):Prop := ¬ (x.1=3∨x.1=4∨x.1=5)→x.1≠12→x.2=0
theorem noA_list:∀ (ss:List Ex),(∀ s ∈ ss,∀ lo,∀ x ∈ sts s lo,NoA x)→∀ lo,∀ x ∈ stss ss lo,NoA x
  | [],_,lo,x,h=>by simp [stss] at h
  | e::ss,he,lo,x,h=>by
    simp only [stss,List.mem_append] at h
    rcases h with h | h
    · exact he e (by simp) lo x h
    · exact noA_list ss (fun s hs=>he s (by simp [hs])) _ x h
theorem noA_all:∀ (e:Ex) (lo:Nat),∀ x ∈ sts e lo,NoA x:=by
  intro e
  induction e using Ex.ind with
  | h op a b ss ih =>
    intro lo x hx
    have hl:=fun lo=>noA_list ss ih lo x
    simp only [sts] at hx
    repeat' split at hx
    all_goals simp only [List.mem_cons,List.mem_append,List.not_mem_nil,or_false] at hx
    · rcases hx with rfl | rfl <;> (intro _ _; rfl)
    · rcases hx with rfl | h | rfl
      · intro _ _; rfl
      · exact hl _ h
      · intro _ _; rfl
    · rcases hx with rfl | rfl | h
      · intro h _; exact absurd (Or.inl rfl) h
      · intro _ _; rfl
      · exact hl _ h
    · rcases hx with rfl | rfl | h
      · intro h _; exact absurd (Or.inl rfl) h
      · intro _ _; rfl
      · exact hl _ h
    · rcases hx with rfl | rfl | rfl | rfl | rfl | h
      · intro _ h; exact absurd rfl h
      · intro _ _; rfl
      · intro _ _; rfl
      · intro h _; exact absurd (Or.inr (Or.inr rfl)) h
      · intro _ _; rfl
      · exact hl _ h
    · rcases hx with rfl | rfl | rfl | rfl | h
      · intro _ h; exact absurd rfl h
      · intro _ _; rfl
      · intro h _; exact absurd (Or.inr (Or.inl rfl)) h
      · intro _ _; rfl
      · exact hl _ h
theorem noA_c:∀ (es:List Ex) (r lo:Nat),∀ x ∈ cSts es r lo,NoA (x.1,x.2.2)
  | [],r,lo,x,h=>by simp [cSts] at h
  | e::es,r,lo,x,h=>by
    simp only [cSts,List.cons_append,List.mem_cons,List.mem_append,List.mem_map] at h
    rcases h with rfl | rfl | ⟨y,hy,rfl⟩ | h
    · intro _ _; rfl
    · intro _ _; rfl
    · exact noA_all e _ y hy
    · exact noA_c es _ _ x h
theorem nA_none {s:Nat} (h1 : ¬ (nK rules s=3∨nK rules s=4∨nK rules s=5)) (h2:nK rules s≠12):nA rules s=0:=by
  unfold nA nK at *
  rw [List.getD_eq_getElem?_getD] at *
  cases e:(nSts rules)[s]? with
  | none=>rw [e] at h1 h2; rfl
  | some x =>
    rw [e] at h1 h2
    have hm:=List.mem_of_getElem? e
    unfold nSts at hm
    rcases List.mem_cons.1 hm with rfl | hm
    · rfl
    · exact noA_c rules 0 1 x hm h1 h2
theorem nOut_mem {s:Nat} {q:Nat} (h:Tr.eps q ∈ nOut rules s):∃ d ∈ cEdg rules 1,d.src=s∧d.to=q:=by
  unfold nOut outL at h
  obtain ⟨d,hd,he⟩:=List.mem_map.1 h
  obtain ⟨h1,h2⟩:=List.mem_filter.1 hd
  refine ⟨d,h1,by simpa using h2,?_⟩
  unfold Ed.tr at he
  split at he
  · simpa using he
  · split at he <;> simp at he
theorem n4 (hg:GoodR rules) {s:Nat} (h:nK rules s=4):∃ d ∈ cEdg rules 1,d.to=s∧nK rules d.src=11:=by
  obtain ⟨_,hn⟩:=nNode hg (s:=s) (by omega) (by omega) (by omega) (by omega)
  obtain ⟨h1,h11⟩:=hn.pls h
  obtain ⟨_,hn2⟩:=nNode hg (s:=s - 1) (by omega) (by omega) (by omega) (by omega)
  obtain ⟨_,ho,_⟩:=hn2.plb h11
  obtain ⟨d,hd,hs,ht⟩:=nOut_mem (rules:=rules) (s:=s - 1) (q:=s) (by rw [ho,show s - 1+1=s from by omega]; simp)
  exact ⟨d,hd,ht,by rw [hs]; exact h11⟩
theorem n10 (hg:GoodR rules) {s:Nat} (h:nK rules s=10):(∃ a b,nOut rules s=[.eps a,.eps b]∧nK rules a=5∧nK rules b=12)∧∃ d ∈ cEdg rules 1,d.to=s∧nK rules d.src=9:=by
  obtain ⟨_,hn⟩:=nNode hg (s:=s) (by omega) (by omega) (by omega) (by omega)
  obtain ⟨h1,ho,h5,h12,h9⟩:=hn.ent h
  refine ⟨⟨s+2,s - 1,ho,h5,h12⟩,?_⟩
  obtain ⟨_,hn2⟩:=nNode hg (s:=s+1) (by omega) (by omega) (by omega) (by omega)
  obtain ⟨_,ho2,_⟩:=hn2.bck h9
  obtain ⟨d,hd,hs,ht⟩:=nOut_mem (rules:=rules) (s:=s+1) (q:=s) (by rw [ho2,show s+1 - 1=s from by omega]; simp)
  exact ⟨d,hd,ht,by rw [hs]; exact h9⟩
theorem n9 (hg:GoodR rules) {s:Nat} (h:nK rules s=9):∃ a,nOut rules s=[.eps a]∧nK rules a=10:=by
  obtain ⟨_,hn⟩:=nNode hg (s:=s) (by omega) (by omega) (by omega) (by omega)
  obtain ⟨h1,ho,h10⟩:=hn.bck h
  exact ⟨s - 1,ho,h10⟩
theorem n8 (hg:GoodR rules) {s:Nat} (h:nK rules s=8):∃ m,(nK rules m=3∨nK rules m=4∨nK rules m=5)∧nA rules m=s:=by
  obtain ⟨_,hn⟩:=nNode hg (s:=s) (by omega) (by omega) (by omega) (by omega)
  obtain ⟨h1,h2⟩:=hn.fin h
  refine ⟨s - 1,h2,?_⟩
  rw [(nBlk hg h2).1]; omega
theorem n17 (hg:GoodR rules) {s:Nat} (h:nK rules s=1∨nK rules s=7):(nOut rules s).length≤1:=by
  rcases h with h | h
  · obtain ⟨_,hn⟩:=nNode hg (s:=s) (by omega) (by omega) (by omega) (by omega)
    obtain ⟨tr,ht⟩:=hn.bas h
    rw [ht]; simp
  · have hlt:=nK_lt (rules:=rules) (s:=s) (by omega)
    have h1:1≤s:=by
      rcases Nat.eq_zero_or_pos s with h0 | h0
      · subst h0; rw [nK_zero] at h; omega
      · exact h0
    obtain ⟨r,e,lo,_,_,_,_,hb,hc⟩:=nCases hg h1 hlt
    rcases hc with rfl | rfl | ⟨g1,g2,hn⟩
    · rw [hb.kstart] at h; omega
    · rw [hb.stop]; simp
    · have:=hn.kind; omega
theorem nOut_stop (hg:GoodR rules) {s:Nat} (h:nK rules s=7):nOut rules s=[]:=by
  have hlt:=nK_lt (rules:=rules) (s:=s) (by omega)
  have h1:1≤s:=by
    rcases Nat.eq_zero_or_pos s with h0 | h0
    · subst h0; rw [nK_zero] at h; omega
    · exact h0
  obtain ⟨r,e,lo,_,_,_,_,hb,hc⟩:=nCases hg h1 hlt
  rcases hc with rfl | rfl | ⟨g1,g2,hn⟩
  · rw [hb.kstart] at h; omega
  · exact hb.stop
  · have:=hn.kind; omega
theorem n2 (hg:GoodR rules) {s:Nat} (h:nK rules s=2):(cStart rules 1)[nRu rules s]? = some s∧nK rules (s+1)=7∧nRu rules (s+1)=nRu rules s:=by
  have hlt:=nK_lt (rules:=rules) (s:=s) (by omega)
  have h1:1≤s:=by
    rcases Nat.eq_zero_or_pos s with h0 | h0
    · subst h0; rw [nK_zero] at h; omega
    · exact h0
  obtain ⟨r,e,lo,he,hlo,g1,g2,hb,hc⟩:=nCases hg h1 hlt
  rcases hc with rfl | rfl | ⟨_,_,hn⟩
  · have hr:=hb.rule s (by omega) (by omega)
    have hr2:=hb.rule (s+1) (by omega) (by omega)
    rw [hr,hr2]
    exact ⟨hlo,hb.kstop,rfl⟩
  · rw [hb.kstop] at h; omega
  · have:=hn.kind; omega
theorem nStart {s:Nat} (h:s ∈ cStart rules 1):nK rules s=2:=by
  obtain ⟨r,hr⟩:=List.mem_iff_getElem?.1 h
  have hl:r<rules.length:=by rw [← cStart_len rules 1]; exact (List.getElem?_eq_some_iff.1 hr).1
  obtain ⟨lo,h1,_,_,hb⟩:=(nBlks rules).1 r rules[r] (List.getElem?_eq_getElem hl)
  rw [hr] at h1
  obtain rfl:s=lo:=by simpa using h1
  exact hb.kstart
theorem nStart_lt {s:Nat} (h:s ∈ cStart rules 1):s<1+cN rules:=nK_lt (by rw [nStart h]; omega)
end
end Lx
end
section
namespace Go.Proofs.YtbcngfgemjdllaaGreatDoor
open Go.RowKit Go.Own
variable {rules:List Lx.Ex} {n:Nat}
theorem adds_ne {h:Lx.Cf→Int} : ∀ (xs:List Lx.Cf) (S:Lx.CS),(xs≠[]∨S.cf≠[])→(Lx.adds h S xs).cf≠[]
  | [],S,hx=>by
    rcases hx with hx | hx
    · exact absurd rfl hx
    · exact hx
  | y :: xs, S, _ => by
    rw [show Lx.adds h S (y::xs)=Lx.adds h (Lx.add1 h S y) xs from rfl]
    refine adds_ne xs _ (.inr ?_)
    simp only [Lx.add1]
    split
    · rename_i hy
      intro e
      rw [e] at hy
      simp at hy
    · simp
theorem nOut_nonneg (hg:Lx.GoodR rules) {s:Nat} {tr:Lx.Tr} (h:tr ∈ Lx.nOut rules s):tr.fits (-1)=false:=by
  unfold Lx.nOut Lx.outL at h
  obtain ⟨d,hd,rfl⟩:=List.mem_map.1 h
  obtain ⟨⟨_,h1,_⟩,_⟩:=Lx.nEdg hg (List.mem_filter.1 hd).1
  unfold Lx.Ed.tr
  split
  · rfl
  · split
    · simp only [Lx.Tr.fits,Bool.and_eq_false_iff,decide_eq_false_iff_not]; left; omega
    · simp only [Lx.Tr.fits,Bool.and_eq_false_iff,decide_eq_false_iff_not]; left; omega
theorem env_of (hg:Lx.GoodR rules) (hs:Lx.Small rules) (hl:0<rules.length) (hn:∀ s,1≤s→Lx.Dep (Lx.nOut rules) n s):Env (Lx.nOut rules) n (1+Lx.cN rules) (rules.length+1) (Lx.LOk rules) where
  dep:=fun s _ tr htr=>hn _ (Lx.nTo htr).1
  neg:=fun s _ tr htr=>nOut_nonneg hg htr
  len:=fun L hL c=>Lx.rch1_len hg hn hs hL c
  keep:=fun L hL c=>Lx.LOk.of (Lx.rch1_in hL.ok)
  lt:=fun L hL x hx=>by have:=hL.ok x hx; omega
  rlt:=fun L hL c x hx=>by have:=Lx.rch1_in hL.ok x hx; omega
  slen:=Lx.st0_len hg hn hs
  sP:=Lx.LOk.of Lx.st0_in
  sne:=adds_ne _ _ (.inl (Lx.st0_ne (by intro e; rw [e] at hl; simp at hl) hn))
  slt:=fun x hx=>by have:=Lx.st0_in x hx; omega
  hA:=by rw [Lx.nOut_zero,List.length_map,Lx.cStart_len]
end Go.Proofs.YtbcngfgemjdllaaGreatDoor
end
