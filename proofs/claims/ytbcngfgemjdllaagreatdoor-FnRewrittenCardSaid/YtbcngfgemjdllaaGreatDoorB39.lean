/- Part 39: Z20, W4, Z21. -/
import Derived.Deep.AppendLies
import Derived.Test.YtbcngfgemjdllaaGreatDoorB29
import Derived.Test.YtbcngfgemjdllaaGreatDoorB31
import Derived.Test.YtbcngfgemjdllaaGreatDoorB34
import Derived.Test.YtbcngfgemjdllaaGreatDoorB37
import Derived.Test.YtbcngfgemjdllaaGreatDoorB38
set_option linter.unusedVariables false
set_option linter.unusedSimpArgs false
section
namespace Go.Proofs.YtbcngfgemjdllaaGreatDoor
open Go.RowKit Go.Own
variable {rules:List Lx.Ex} {L L0 L' L2 L3 L4 L5:List LS}
structure Bas (rules:List Lx.Ex) (L:List LS):Prop where
  len:L.length=1+Lx.cN rules
  at_:∀ (i:Nat) (x:LS),L[i]? = some x→x.i=i∧x.ar=Lx.nA rules i∧x.q.k=Lx.nK rules i∧x.q.ru=(Lx.nRu rules i:Int)
theorem Bas.get (h:Bas rules L) {i:Nat} (hi:i<1+Lx.cN rules):∃ x,L[i]? = some x:=⟨_,List.getElem?_eq_getElem (by rw [h.len]; exact hi)⟩
theorem Bas.lt (h:Bas rules L) {i:Nat} {x:LS} (hx:L[i]? = some x):i<1+Lx.cN rules:=by rw [← h.len]; exact (List.getElem?_eq_some_iff.1 hx).1
theorem Bas.mem (_h:Bas rules L) {x:LS} (hx:x ∈ L):∃ i:Nat,L[i]? = some x:=List.mem_iff_getElem?.1 hx
theorem get_of {L L':List LS} (hl:L'.length=L.length) {i:Nat} {x:LS} (hx:L'[i]? = some x):∃ y,L[i]? = some y:=⟨_,List.getElem?_eq_getElem (by rw [← hl]; exact (List.getElem?_eq_some_iff.1 hx).1)⟩
theorem Bas.of_lof (h:LOf L (Lx.nSts rules)):Bas rules L:=⟨by rw [h.len,Lx.nSt_len],fun i x hx=>by
  have hi:i<1+Lx.cN rules:=by rw [← Lx.nSt_len,← h.len]; exact (List.getElem?_eq_some_iff.1 hx).1
  obtain ⟨h1,h2,h3⟩:=h.at_ i x _ hx (Lx.nSt_get hi)
  refine ⟨h1,h2,?_,?_⟩ <;> rw [h3] <;> rfl⟩
theorem Bas.num (h:Bas rules L):Num L:=fun i x hx=>(h.at_ i x hx).1
theorem Bas.kok (hg:Lx.GoodR rules) (h:Bas rules L) {x:LS} (hx:x ∈ L):KOk x.q.k:=by
  obtain ⟨i,hi⟩:=h.mem hx
  have:=Lx.nK_ok hg (h.lt hi)
  rw [(h.at_ i x hi).2.2.1]; exact ⟨this.1,this.2⟩
theorem fin_at (i:Nat):(finS L)[i]? = (L[i]?).map fun x=>(fun y=>if isB y then enS (lbL L) y else y) (if is12 x then lbS L x else x):=by
  unfold finS
  rw [List.getElem?_map]
  unfold lbL
  rw [List.getElem?_map,Option.map_map]
  rfl
theorem lkp_lbL (n:Nat):lkp (lbL L) n=lkp L n:=by
  unfold lkp lbL
  rw [List.getElem?_map]
  cases L[n]? with
  | none=>rfl
  | some y=>simp only [Option.map_some]; split <;> rfl
structure Fin1 (L:List LS) (x y:LS):Prop where
  b:y.b=x.b
  i:y.i=x.i
  ar:y.ar=x.ar
  k:y.q.k=x.q.k
  ru:y.q.ru=x.q.ru
  eo:y.q.eo=x.q.eo
  ta:y.q.ta=x.q.ta
  tc:y.q.tc=x.q.tc
  tl:y.q.tl=x.q.tl
  dec:y.q.dec=x.q.dec
  st:y.q.st=x.q.st
  lb:x.q.k=12→y.q.lb=lk L x.ar
  en:BOk x.q.k→y.q.en=lkp L x.ar
theorem fin1 {i:Nat} {x:LS} (hx:L[i]? = some x):∃ y,(finS L)[i]? = some y∧Fin1 L x y:=by
  rw [fin_at,hx]
  refine ⟨_,rfl,?_⟩
  dsimp only
  by_cases h12:is12 x=true
  · have hk:x.q.k=12:=by simpa [is12] using h12
    have hb : ¬ isB (lbS L x)=true:=by simp [isB,lbS,hk]
    rw [if_pos h12,if_neg hb]
    exact ⟨rfl,rfl,rfl,rfl,rfl,rfl,rfl,rfl,rfl,rfl,rfl,fun _=>rfl,fun h=>by have:=h.is; omega⟩
  · have hk:x.q.k≠12:=by simpa [is12] using h12
    rw [if_neg h12]
    by_cases hb:isB x=true
    · rw [if_pos hb]
      exact ⟨rfl,rfl,rfl,rfl,rfl,rfl,rfl,rfl,rfl,rfl,rfl,fun h=>absurd h hk,fun _=>lkp_lbL _⟩
    · rw [if_neg hb]
      exact ⟨rfl,rfl,rfl,rfl,rfl,rfl,rfl,rfl,rfl,rfl,rfl,fun h=>absurd h hk,fun h=>by
        exfalso; apply hb
        have:=h.is
        simp only [isB,Bool.or_eq_true,beq_iff_eq]; omega⟩
theorem fin_len:(finS L).length=L.length:=by simp [finS,lbL]
theorem fin1' {i:Nat} {y:LS} (hy:(finS L)[i]? = some y):∃ x,L[i]? = some x∧Fin1 L x y:=by
  obtain ⟨x,hx⟩:=get_of fin_len hy
  obtain ⟨y',h1,h2⟩:=fin1 hx
  rw [hy] at h1; cases h1
  exact ⟨x,hx,h2⟩
theorem Bas.fin (h:Bas rules L):Bas rules (finS L):=⟨by rw [fin_len,h.len],fun i y hy=>by
  obtain ⟨x,hx,hf⟩:=fin1' hy
  obtain ⟨h1,h2,h3,h4⟩:=h.at_ i x hx
  exact ⟨by rw [hf.i,h1],by rw [hf.ar,h2],by rw [hf.k,h3],by rw [hf.ru,h4]⟩⟩
theorem StU.back {ruls:List (Nat × Nat)} {n i:Nat} {y:LS} (h:StU ruls L L' n) (hy:L'[i]? = some y):∃ x v,L[i]? = some x∧y=stS v x∧(x.q.k≠2→v=x.q.st) ∧
    (∀ (j:Nat) (y:LS) (ρ tt:Nat),j<n→L[j]? = some y→y.q.k=7→y.q.ru=(ρ : Int)→ruls[ρ]? = some (i,tt)→∃ T p,v=.iface T (.pointer p)):=by
  obtain ⟨x,hx⟩:=get_of h.len hy
  obtain ⟨v,h1,h2,h3⟩:=h.at_ i x hx
  rw [hy] at h1; cases h1
  exact ⟨x,v,hx,rfl,h2,h3⟩
theorem Bas.stu {ruls:List (Nat × Nat)} {n:Nat} (h:Bas rules L) (hu:StU ruls L L' n):Bas rules L':=⟨by rw [hu.len,h.len],fun i y hy=>by
  obtain ⟨x,v,hx,rfl,_⟩:=hu.back hy
  exact h.at_ i x hx⟩
theorem EdU.back {E:List Lx.Ed} {ts:List TP} {i:Nat} {y:LS} (h:EdU L L' E ts) (hy:L'[i]? = some y):∃ x ta tc,L[i]? = some x∧y=trS (Lx.epsOnly (Lx.outL E i)) ta tc ((outT ts i).map tpV) x:=by
  obtain ⟨x,hx⟩:=get_of h.len hy
  obtain ⟨ta,tc,h1⟩:=h.at_ i x hx
  rw [hy] at h1; cases h1
  exact ⟨x,ta,tc,hx,rfl⟩
theorem Bas.edu {E:List Lx.Ed} {ts:List TP} (h:Bas rules L) (hu:EdU L L' E ts):Bas rules L':=⟨by rw [hu.len,h.len],fun i y hy=>by
  obtain ⟨x,ta,tc,hx,rfl⟩:=hu.back hy
  exact h.at_ i x hx⟩
theorem XU.back {PS PL:Nat→Prop} {i:Nat} {y:LS} (h:XU L L' PS PL) (hy:L'[i]? = some y):∃ x st lb,L[i]? = some x∧y=xS st lb x∧(PS i→IsIf st)∧(¬ PS i→st=x.q.st)∧(PL i→IsIf lb)∧(¬ PL i→lb=x.q.lb):=by
  obtain ⟨x,hx⟩:=get_of h.len hy
  obtain ⟨st,lb,h1,h2⟩:=h.at_ i x hx
  rw [hy] at h1; cases h1
  exact ⟨x,st,lb,hx,rfl,h2⟩
theorem Bas.xu {PS PL:Nat→Prop} (h:Bas rules L) (hu:XU L L' PS PL):Bas rules L':=⟨by rw [hu.len,h.len],fun i y hy=>by
  obtain ⟨x,st,lb,hx,rfl,_⟩:=hu.back hy
  exact h.at_ i x hx⟩
theorem DU.back {i:Nat} {y:LS} (h:DU L L') (hy:L'[i]? = some y):∃ x d,L[i]? = some x∧y=dcS d x∧(0≤x.q.dec→0≤d):=by
  obtain ⟨x,hx⟩:=get_of h.len hy
  obtain ⟨d,h1,h2⟩:=h.at_ i x hx
  rw [hy] at h1; cases h1
  exact ⟨x,d,hx,rfl,h2⟩
theorem Bas.du (h:Bas rules L) (hu:DU L L'):Bas rules L':=⟨by rw [hu.len,h.len],fun i y hy=>by
  obtain ⟨x,d,hx,rfl,_⟩:=hu.back hy
  exact h.at_ i x hx⟩
theorem pre83 (hg:Lx.GoodR rules):∀ x ∈ Lx.nSts rules,x.1≤12∧1≤x.1:=fun x hx=>by
  obtain ⟨i,hi⟩:=List.mem_iff_getElem?.1 hx
  have hl:i<1+Lx.cN rules:=by rw [← Lx.nSt_len]; exact (List.getElem?_eq_some_iff.1 hi).1
  rw [Lx.nSt_get hl] at hi; cases hi
  have:=Lx.nK_ok hg hl
  exact ⟨this.2,this.1⟩
theorem pre83b (hg:Lx.GoodR rules):∀ x ∈ Lx.nSts rules,(x.1=12→x.2.2<(Lx.nSts rules).length)∧(BOk x.1→∃ s,(Lx.nSts rules)[x.2.2]? = some s∧s.1=8):=fun x hx=>by
  obtain ⟨i,hi⟩:=List.mem_iff_getElem?.1 hx
  have hl:i<1+Lx.cN rules:=by rw [← Lx.nSt_len]; exact (List.getElem?_eq_some_iff.1 hi).1
  rw [Lx.nSt_get hl] at hi; cases hi
  refine ⟨fun h=>by rw [Lx.nSt_len]; exact Lx.nEnd hg h,fun h => ?_⟩
  obtain ⟨h1,h2⟩:=Lx.nBlk hg h.is
  refine ⟨_,by dsimp only; rw [h1]; exact Lx.nSt_get (Lx.nK_lt (by rw [h2]; omega)),h2⟩
def ruN (rules:List Lx.Ex):List (Nat × Nat):=(Lx.cStart rules 1).zip ((List.range rules.length).map (· + 1))
theorem ruN_get {ρ a tt:Nat} (h:(ruN rules)[ρ]? = some (a,tt)):(Lx.cStart rules 1)[ρ]? = some a∧tt = ρ + 1:=by
  unfold ruN at h
  rw [List.getElem?_zip_eq_some] at h
  obtain ⟨h1,h2⟩:=h
  refine ⟨h1,?_⟩
  have hl:=(List.getElem?_eq_some_iff.1 h2).1
  rw [List.length_map,List.length_range] at hl
  rw [List.getElem?_map,List.getElem?_range hl] at h2
  simpa using h2.symm
theorem ruN_of {ρ a:Nat} (h:(Lx.cStart rules 1)[ρ]? = some a):(ruN rules)[ρ]? = some (a,ρ + 1):=by
  unfold ruN
  rw [List.getElem?_zip_eq_some]
  have hl : ρ < rules.length:=by rw [← Lx.cStart_len rules 1]; exact (List.getElem?_eq_some_iff.1 h).1
  refine ⟨h,?_⟩
  rw [List.getElem?_map,List.getElem?_range hl]; rfl
theorem ruN_len:(ruN rules).length=rules.length:=by simp [ruN,Lx.cStart_len]
theorem pre_rs (h:Bas rules L):∀ x ∈ ruN rules,∃ t,L[x.1]? = some t∧t.q.k=2:=fun x hx=>by
  obtain ⟨ρ,hρ⟩:=List.mem_iff_getElem?.1 hx
  have h1:=List.mem_of_getElem? (ruN_get (a:=x.1) (tt:=x.2) hρ).1
  obtain ⟨t,ht⟩:=h.get (Lx.nStart_lt h1)
  exact ⟨t,ht,by rw [(h.at_ _ t ht).2.2.1,Lx.nStart h1]⟩
theorem pre_ru (hg:Lx.GoodR rules) (h:Bas rules L) {k:Nat} (hk:k≠6):∀ t ∈ L,t.q.k=k→∃ ρ,ρ < (ruN rules).length∧t.q.ru=(ρ : Int):=fun t ht e=>by
  obtain ⟨i,hi⟩:=h.mem ht
  obtain ⟨_,_,h3,h4⟩:=h.at_ i t hi
  refine ⟨Lx.nRu rules i,?_,h4⟩
  rw [ruN_len]
  refine Lx.nRu_lt hg ?_ (h.lt hi)
  rcases Nat.eq_zero_or_pos i with h0 | h0
  · subst h0; rw [Lx.nK_zero] at h3; omega
  · exact h0
theorem pre85 (h:Bas rules L):∃ t,L[0]? = some t∧t.q.k=6:=by
  obtain ⟨t,ht⟩:=h.get (i:=0) (by omega)
  exact ⟨t,ht,by rw [(h.at_ 0 t ht).2.2.1,Lx.nK_zero]⟩
theorem preE (hg:Lx.GoodR rules) (h:Bas rules L):∀ d ∈ Lx.cEdg rules 1,EOk L d:=fun d hd=>by
  obtain ⟨⟨h1,h2,h3,h4,h5⟩,h6,h7⟩:=Lx.nEdg hg hd
  exact ⟨h.get h6,h.get h7,h1,by omega⟩
theorem preD (h:Bas rules L):∀ s ∈ 0::Lx.cDec rules 1,∃ x,L[s]? = some x∧DOk x.q.k:=fun s hs=>by
  have h1:=Lx.nDec hs
  obtain ⟨x,hx⟩:=h.get (i:=s) (Lx.nK_lt (by omega))
  refine ⟨x,hx,⟨?_⟩⟩
  rw [(h.at_ s x hx).2.2.1]; exact h1
theorem sq_fin (hg:Lx.GoodR rules) (h:LOf L0 (Lx.nSts rules)):∀ (i:Nat) (y:LS),(finS L0)[i]? = some y→y.q.eo=false∧y.q.tl=[]∧y.q.dec=0∧y.q.st=.nilIface ∧
    (y.q.k=12→IsIf y.q.lb)∧(BOk y.q.k→∃ e,(finS L0)[y.ar]? = some e∧e.q.k=8∧y.q.en=.pointer (some ⟨e.b,0,none⟩)):=fun i y hy=>by
  obtain ⟨x,hx,hf⟩:=fin1' hy
  have hb:=Bas.of_lof h
  have hi:=hb.lt hx
  obtain ⟨_,har,hq⟩:=h.at_ i x _ hx (Lx.nSt_get hi)
  obtain ⟨_,_,hk,_⟩:=hb.at_ i x hx
  refine ⟨by rw [hf.eo,hq]; rfl,by rw [hf.tl,hq]; rfl,by rw [hf.dec,hq]; rfl,by rw [hf.st,hq]; rfl,fun h12 => ?_,fun hB => ?_⟩
  · rw [hf.k] at h12
    obtain ⟨t,ht⟩:=hb.get (Lx.nEnd hg (hk ▸ h12))
    rw [hf.lb h12,har]
    dsimp only
    unfold lk
    rw [ht]
    exact ⟨_,_,rfl⟩
  · rw [hf.k] at hB
    obtain ⟨h1,h2⟩:=Lx.nBlk hg (s:=i) (by rw [← hk]; exact hB.is)
    obtain ⟨t,ht⟩:=hb.get (i:=i+1) (Lx.nK_lt (by rw [h2]; omega))
    obtain ⟨e,he,hfe⟩:=fin1 ht
    refine ⟨e,by rw [hf.ar,har]; dsimp only; rw [h1]; exact he,by rw [hfe.k,(hb.at_ _ t ht).2.2.1,h2],?_⟩
    rw [hf.en hB,har]
    dsimp only
    unfold lkp
    rw [h1,ht,hfe.b]
theorem pre87 (hg:Lx.GoodR rules) {n:Nat} (h:LOf L0 (Lx.nSts rules)) (hu:StU (ruN rules) (finS L0) L2 n):(∀ x ∈ L2,x.q.eo=false∧x.q.tl=[])∧BlOk L2:=by
  have hb0:=Bas.of_lof h
  have hb:=hb0.fin.stu hu
  refine ⟨fun x hx => ?_,?_,?_,?_⟩
  · obtain ⟨i,hi⟩:=hb.mem hx
    obtain ⟨y,v,hy,rfl,_⟩:=hu.back hi
    have:=sq_fin hg h i y hy
    exact ⟨this.1,this.2.1⟩
  · intro i x hx hB
    obtain ⟨y,v,hy,rfl,_⟩:=hu.back hx
    obtain ⟨e,he,hek,hen⟩:=(sq_fin hg h i y hy).2.2.2.2.2 hB
    obtain ⟨v',h1,_⟩:=hu.at_ _ e he
    exact ⟨_,h1,hek,hen⟩
  · intro i i' x x' hx hx' hB hB' e
    have h1:=hb.at_ i x hx
    have h2:=hb.at_ i' x' hx'
    have g1:=(Lx.nBlk hg (s:=i) (by rw [← h1.2.2.1]; exact hB.is)).1
    have g2:=(Lx.nBlk hg (s:=i') (by rw [← h2.2.2.1]; exact hB'.is)).1
    rw [h1.2.1,h2.2.1] at e
    omega
  · intro x hx hk
    obtain ⟨i,hi⟩:=hb.mem hx
    obtain ⟨y,v,hy,rfl,hv,_⟩:=hu.back hi
    have:y.q.k=8:=hk
    rw [show (stS v y).q.st=v from rfl,hv (by omega)]
    exact (sq_fin hg h i y hy).2.2.2.1
theorem outT_tr {E:List Lx.Ed} {ts:List TP} (h:ts.map (·.d)=E) (i:Nat):(outT ts i).map (fun y=>y.d.tr)=Lx.outL E i:=by
  subst h
  unfold outT Lx.outL
  induction ts with
  | nil=>rfl
  | cons x ts ih =>
    rw [List.map_cons,List.filter_cons,List.filter_cons]
    by_cases hx:(x.d.src == i)=true
    · rw [if_pos hx,if_pos hx,List.map_cons,List.map_cons,ih]
    · rw [if_neg hx,if_neg hx,ih]
theorem eps_to {d:Lx.Ed} {q:Nat} (h:d.tr=.eps q):d.to=q:=by
  unfold Lx.Ed.tr at h
  split at h
  · simpa using h
  · split at h <;> simp at h
theorem chainV (hg:Lx.GoodR rules) (hrl:0<rules.length) {ts:List TP} (h:LOf L0 (Lx.nSts rules)) (hu:StU (ruN rules) (finS L0) L2 (finS L0).length) (he:EdU L2 L3 (Lx.cEdg rules 1) ts) (hx:XU L3 L4 (PSj L2 L2.length) (PLj L2 ts L2.length)) (hd:DU L4 L5) :
    ∀ (j:Nat) (x:LS),L5[j]? = some x→VSt L5 ts j x:=fun j x5 h5=>by
  have b0:=Bas.of_lof h
  have b1:=b0.fin
  have b2:=b1.stu hu
  have b3:=b2.edu he
  have b4:=b3.xu hx
  have b5:=b4.du hd
  obtain ⟨x4,d,h4,rfl,hdec⟩:=hd.back h5
  obtain ⟨x3,st,lb,h3,rfl,hps,hnps,hpl,hnpl⟩:=hx.back h4
  obtain ⟨x2,ta,tc,h2,rfl⟩:=he.back h3
  obtain ⟨x1,v,h1,rfl,hv2,hv7⟩:=hu.back h2
  obtain ⟨s1,s2,s3,s4,s5,s6⟩:=sq_fin hg h j x1 h1
  obtain ⟨_,_,hk,_⟩:=b1.at_ j x1 h1
  have hlt:=b1.lt h1
  have hlen:=outT_len he j
  have hmap:=outT_tr he.ds j
  have hkk:(dcS d (xS st lb (trS (Lx.epsOnly (Lx.outL (Lx.cEdg rules 1) j)) ta tc ((outT ts j).map tpV) (stS v x1)))).q.k=x1.q.k:=rfl
  have hsrc:∀ dd ∈ Lx.cEdg rules 1,∃ y ∈ ts,y.d=dd:=fun dd hdd=>by
    rw [← he.ds] at hdd
    obtain ⟨y,hy,e⟩:=List.mem_map.1 hdd
    exact ⟨y,hy,e⟩
  have hPL:∀ a b:Nat,((a=11∧b=4)∨(a=9∧b=10))→x1.q.k=b→(∃ dd ∈ Lx.cEdg rules 1,dd.to=j∧Lx.nK rules dd.src=a)→IsIf lb:=fun a b hab hb ⟨dd,hdd,hto,hka⟩=>by
    obtain ⟨y,hy,rfl⟩:=hsrc dd hdd
    have hs:=(Lx.nEdg hg hdd).2.1
    obtain ⟨z,hz⟩:=b2.get hs
    have hzk:=(b2.at_ _ z hz).2.2.1
    refine hpl ⟨y,hy,by rw [b2.len]; exact hs,hto,z,stS v x1,hz,h2,?_⟩
    rw [hzk,hka,show (stS v x1).q.k=x1.q.k from rfl,hb]
    exact hab
  refine ⟨?_,rfl,?_,?_,?_,?_,?_,?_,?_,?_,?_,?_,?_⟩
  · exact b5.kok hg (List.mem_of_getElem? h5)
  · intro y hy
    obtain ⟨t,ht,hT⟩:=he.ok y (List.mem_filter.1 hy).1
    obtain ⟨t5,ht5⟩:=b5.get (b2.lt ht)
    refine ⟨hT.ok,t5,ht5,?_⟩
    rw [hT.c0]
    obtain ⟨_,_,g4,rfl,_⟩:=hd.back ht5
    obtain ⟨_,_,_,g3,rfl,_⟩:=hx.back g4
    obtain ⟨_,_,_,g2,rfl⟩:=he.back g3
    rw [ht] at g2; cases g2
    rfl
  · by_cases h17:x1.q.k=1∨x1.q.k=7
    · exact .inr h17
    · left
      exact Lx.nFew2 hg hrl hlt (by rw [← hk]; omega) (by rw [← hk]; omega)
  · intro h4k
    rw [hkk] at h4k
    exact hPL 11 4 (.inl ⟨rfl,rfl⟩) h4k (Lx.n4 hg (hk ▸ h4k))
  · intro hk10
    rw [hkk] at hk10
    obtain ⟨⟨a,b,ho,ha,hb⟩,hb9⟩:=Lx.n10 hg (hk ▸ hk10)
    refine ⟨hPL 9 10 (.inr ⟨rfl,rfl⟩) hk10 hb9,?_⟩
    rw [show Lx.outL (Lx.cEdg rules 1) j=[.eps a,.eps b] from ho] at hmap
    rcases hq:outT ts j with _ | ⟨y0,_ | ⟨y1,_ | ⟨y2,l⟩⟩⟩ <;> rw [hq] at hmap
    · simp at hmap
    · simp at hmap
    · simp only [List.map_cons,List.map_nil,List.cons.injEq,and_true] at hmap
      obtain ⟨t0,ht0⟩:=b5.get (i:=a) (Lx.nK_lt (by omega))
      obtain ⟨t1,ht1⟩:=b5.get (i:=b) (Lx.nK_lt (by omega))
      exact ⟨y0,y1,t0,t1,rfl,by rw [eps_to hmap.1]; exact ht0,by rw [(b5.at_ _ _ ht0).2.2.1,ha],by rw [eps_to hmap.2]; exact ht1,by rw [(b5.at_ _ _ ht1).2.2.1,hb]⟩
    · simp at hmap
  · intro hk9
    rw [hkk] at hk9
    obtain ⟨a,ho,ha⟩:=Lx.n9 hg (hk ▸ hk9)
    rw [show Lx.outL (Lx.cEdg rules 1) j=[.eps a] from ho] at hmap
    rcases hq:outT ts j with _ | ⟨y0,_ | ⟨y1,l⟩⟩ <;> rw [hq] at hmap
    · simp at hmap
    · simp only [List.map_cons,List.map_nil,List.cons.injEq,and_true] at hmap
      obtain ⟨t0,ht0⟩:=b5.get (i:=a) (Lx.nK_lt (by omega))
      exact ⟨y0,t0,rfl,by rw [eps_to hmap]; exact ht0,by rw [(b5.at_ _ _ ht0).2.2.1,ha]⟩
    · simp at hmap
  · intro h12
    rw [hkk] at h12
    by_cases hp:PLj L2 ts L2.length j
    · exact hpl hp
    · rw [show (dcS d (xS st lb _)).q.lb=lb from rfl,hnpl hp]
      exact s5 h12
  · intro hk2
    rw [hkk] at hk2
    have hstv:∃ T p,v=.iface T (.pointer p):=by
      obtain ⟨g1,g2,g3⟩:=Lx.n2 hg (s:=j) (hk ▸ hk2)
      obtain ⟨z,hz⟩:=b1.get (i:=j+1) (Lx.nK_lt (by omega))
      obtain ⟨_,_,hzk,hzr⟩:=b1.at_ _ z hz
      refine hv7 (j+1) z (Lx.nRu rules j) _ (List.getElem?_eq_some_iff.1 hz).1 hz (by rw [hzk,g2]) (by rw [hzr,g3]) (ruN_of g1)
    by_cases hp:PSj L2 L2.length j
    · exact hps hp
    · rw [show (dcS d (xS st lb _)).q.st=st from rfl,hnps hp]
      exact hstv
  · intro hB
    rw [hkk] at hB
    obtain ⟨e,_,_,hen⟩:=s6 hB
    exact ⟨_,hen⟩
  · intro hk8
    rw [hkk] at hk8
    obtain ⟨m,hm,hma⟩:=Lx.n8 hg (hk ▸ hk8)
    obtain ⟨z,hz⟩:=b2.get (i:=m) (Lx.nK_lt (by omega))
    obtain ⟨_,hza,hzk,_⟩:=b2.at_ m z hz
    exact hps ⟨m,z,(List.getElem?_eq_some_iff.1 hz).1,hz,⟨by rw [hzk]; exact hm⟩,by rw [hza,hma]⟩
  · exact hdec (by show (0:Int)≤x1.q.dec; rw [s3]; exact Int.le_refl _)
  · intro h17
    rw [hkk] at h17
    rw [hlen]
    exact Lx.n17 hg (hk ▸ h17)
end Go.Proofs.YtbcngfgemjdllaaGreatDoor
end
section
namespace Go.Proofs.YtbcngfgemjdllaaGreatDoor
open Go.RowKit Go.Own
theorem sl131:SlT Tryz.prog 131 140 3 24 (.agg #[.int .i64 0,.int .i64 0,.int .i64 0]):=⟨by kernel_rfl,sl_inf' (by kernel_rfl),by kernel_rfl,by decide⟩
theorem sl132:SlT Tryz.prog 132 139 2 16 (.agg #[.int .i64 0,.int .i64 0]):=⟨by kernel_rfl,sl_inf' (by kernel_rfl),by kernel_rfl,by decide⟩
theorem sl134:SlT Tryz.prog 134 141 6 48 (.agg #[.int .i64 0,.int .i64 0,.int .i64 0,.int .i64 0,.int .i64 0,.int .i64 0]):=⟨by kernel_rfl,sl_inf' (by kernel_rfl),by kernel_rfl,by decide⟩
def grC (mt:Nat) (sS sR sM sE sD:Value):List Value:=[.bool true,.int .i64 (mt:Int),sS,.slice none 0 0,.slice none 0 0,sR,sM,.slice none 0 0,sE,sD,.slice none 0 0]
end Go.Proofs.YtbcngfgemjdllaaGreatDoor
end
section
namespace Go.Proofs.YtbcngfgemjdllaaGreatDoor
open Go.RowKit Go.Own
variable {B:Nat} {w0 w:World} {r:List HP}
theorem lkp_map {L L':List LS} (h:L'.map ifL=L.map ifL):lkp L'=lkp L:=by
  funext n
  have h1:(L'.map ifL)[n]? = (L.map ifL)[n]? := by rw [h]
  rw [List.getElem?_map,List.getElem?_map] at h1
  unfold lkp
  cases h2:L'[n]? with
  | none =>
    cases h3:L[n]? with
    | none=>rfl
    | some y=>rw [h2,h3] at h1; simp at h1
  | some x =>
    cases h3:L[n]? with
    | none=>rw [h2,h3] at h1; simp at h1
    | some y =>
      rw [h2,h3] at h1
      simp only [Option.map_some,Option.some.injEq,ifL,ifV,Value.iface.injEq,Value.pointer.injEq,Addr.mk.injEq] at h1
      simp [h1.2]
theorem lk_map {L L':List LS} (h:L'.map ifL=L.map ifL):lk L'=lk L:=by
  funext n
  have h1:(L'.map ifL)[n]? = (L.map ifL)[n]? := by rw [h]
  rw [List.getElem?_map,List.getElem?_map] at h1
  unfold lk
  cases h2:L'[n]? with
  | none =>
    cases h3:L[n]? with
    | none=>rfl
    | some y=>rw [h2,h3] at h1; simp at h1
  | some x =>
    cases h3:L[n]? with
    | none=>rw [h2,h3] at h1; simp at h1
    | some y=>rw [h2,h3] at h1; simpa using h1
theorem serN_eq {S:BS} {ruls:List (Nat × Nat)} {mt:Nat} : serN S ruls mt=4::0::(mt:Int)::(S.sts.length:Int)::(S.sts.flatMap seS++0::0::(ruls.length:Int)::(ruls.flatMap ruI++1::0::0::(S.ed.length:Int)::(S.ed.flatMap edI++(S.dc.length:Int)::(S.dc.flatMap inI++[0])))):=by
  unfold serN
  simp
structure Mde (rules:List Lx.Ex) (at_:Nat) (A:AtC) (L4 L5:List LS) (ts:List TP) (sa:Option Addr) (sc:Nat) (g5 g8:Nat) (ga:Option Addr) (ca:Nat):Prop where
  bas:Bas rules L5
  v:∀ (j:Nat) (x:LS),L5[j]? = some x→VSt L5 ts j x
  eo:∀ (j:Nat) (x:LS),L5[j]? = some x→x.q.eo=Lx.epsOnly (Lx.nOut rules j)
  tr:∀ y ∈ ts,∃ t,L5[y.d.to]? = some t∧TrM y.d (ifL t) y.tk y.cs
  ds:ts.map (·.d)=Lx.cEdg rules 1
  a5:∃ t,L5[0]? = some t∧A.md=.slice (some ⟨g5,0,none⟩) 1 1
  a8:A.rtt=.slice (some ⟨g8,0,none⟩) (ruN rules).length (ruN rules).length
  a0:A.dts=.slice ga (0::Lx.cDec rules 1).length ca
  lks:lk L4=lk L5
def MdL (rules:List Lx.Ex) (bd bo:Nat) (dz:List Value) (at_:Nat) (A:AtC) (L4 L5:List LS) (ts:List TP) (sa:Option Addr) (sc:Nat) (g5 g6 g7 g8:Nat) (vs:List Value) (ga:Option Addr) (ca:Nat):List HP :=
  [pts bd 251 dz,pts at_ 114 (A.cells (.slice sa L5.length sc)),Osl (.slice sa L5.length sc) 169 1 L5.length (L5.map ifL),stars (L5.map (sqL at_)),
   stars (ts.map tpP),pts bo 283 [.bool false,.bool true,.bool false],pts g6 305 ((ruN rules).map (rsV L5)),Osl (.slice ga (0::Lx.cDec rules 1).length ca) 116 1 (0::Lx.cDec rules 1).length ((0::Lx.cDec rules 1).map (lk L4)),pts g5 239 [lkp L5 0],pts g7 271 vs,pts g8 3 ((ruN rules).map rtV)]
set_option maxRecDepth 100000 in
set_option maxHeartbeats 8000000 in
theorem c64 {rules:List Lx.Ex} {S:BS} {mt:Nat} {da:Option Addr} {dc bd bo:Nat} {xs:List Int} (hg:Lx.GoodR rules) (hS:S.sts=Lx.nSts rules) (hE:S.ed=Lx.cEdg rules 1) (hD:S.dc=0::Lx.cDec rules 1) (hxs:xs=serN S (ruN rules) mt)
    (hB:B=w0.heap.size) (hrow:RowAt w0 da (i32 xs)) (hlt:xs.length<1000000000) (hrng:∀ x ∈ xs,-2147483648≤x∧x<2147483648)
    (hN:Lx.cN rules<100000) (hrl:0<rules.length) (hE1:S.ed.length<1000000) (hD1:S.dc.length<1000000) (hR1:rules.length<1000000)
    (H:St B w0 (pts bd 251 [.pointer (some ⟨bo,0,none⟩),.slice none 0 0,.int .i64 0]::pts bo 283 [.bool false,.bool true,.bool false]::r) w) :
    Calls Tryz.prog 64 #[.pointer (some ⟨bd,0,none⟩),.slice da xs.length dc] w fun e w'=>∃ at_ A L4 L5 ts sa sc g5 g6 g7 g8 vs ga ca dz,e=.returned (.pointer (some ⟨at_,0,none⟩))∧Mde rules at_ A L4 L5 ts sa sc g5 g8 ga ca ∧
      St B w0 (MdL rules bd bo dz at_ A L4 L5 ts sa sc g5 g6 g7 g8 vs ga ca++r) w':=by
  have hR:∀ at_,RdZ ⟨bd,bo,da,xs.length,dc,at_⟩ B w0 xs:=fun at_=>⟨hB,hrow,rfl,hlt,hrng⟩
  have hx0:xs.drop 0=4::0::(mt:Int)::(S.sts.length:Int)::(S.sts.flatMap seS++0::0::((ruN rules).length:Int)::((ruN rules).flatMap ruI++1::0::0::(S.ed.length:Int)::(S.ed.flatMap edI++(S.dc.length:Int)::(S.dc.flatMap inI++[0])))):=by
    rw [hxs,List.drop_zero]; exact serN_eq
  have HR:=Lib.hid hR
  have HX:=Lib.hid hx0
  have Hs:=Lib.hid (And.intro hS (And.intro hE (And.intro hD (And.intro hN (And.intro hE1 (And.intro hD1 hR1))))))
  have Hg:=Lib.hid hg
  have HR0:=Lib.hid hrl
  have z0:=H.cells.1 0
  have z1:=H.cells.1 1
  have f1:=H.cells.2 1
  have H1:=H.setCell (off:=1) (.slice da xs.length dc)
  have z2:(w.setCell ⟨bd,1,none⟩ (.slice da xs.length dc)).cell? ⟨bd,2,none⟩=some (.int .i64 0):=H1.cells.1 2
  have f2:=H1.cells.2 2
  have H2:=H1.setCell (off:=2) (.int .i64 0)
  have HH:=Lib.hid ((show St B w0 (pts bd 251 (dzC bo da xs.length dc 0)::pts bo 283 [.bool false,.bool true,.bool false]::r) _ from H2))
  clear hrl hR hx0 hxs hB hrow hlt hrng hN hE1 hD1 hR1 hS hE hD hg H H1 H2
  go_enter Tryz.func64,Tryz.ntmps64
  go_wp2_with fail
  go_at_call 81
  refine (c81 (Z:=⟨bd,bo,da,xs.length,dc,0⟩) (HR.out 0) HX.out HH.out).mono ?_
  rintro e w1 ⟨rfl,hx1,h1⟩
  clear z0 z1 f1 z2 f2 HH
  have HX1:=Lib.hid hx1
  have HH1:=Lib.hid h1
  clear hx1 h1
  go_wp2_with fail
  go_at_call 82
  refine (c82 (Z:=⟨bd,bo,da,xs.length,dc,0⟩) (HR.out 0) HX1.out HH1.out).mono ?_
  rintro e w2 ⟨at_,mb,rfl,hx2,h2⟩
  obtain ⟨Z,hZ⟩:∃ Z:ZC,Z=⟨bd,bo,da,xs.length,dc,at_⟩:=⟨_,rfl⟩
  have hRZ:RdZ Z B w0 xs:=hZ ▸ HR.out at_
  have h2a:St B w0 (zwL Z (0+1+1+1) ⟨.slice none 0 0,.slice none 0 0,mt,.map (some mb),.slice none 0 0,.slice none 0 0,.slice none 0 0,.slice none 0 0⟩ none 0 []++(pts bo 283 [.bool false,.bool true,.bool false]::r)) w2:=by
    subst hZ
    have k:=((h2.pick 1).nilStars.ownNil 169 1)
    exact (k.pick 3).pick 3
  have ebd:bd=Z.bd:=by rw [hZ]
  have eat:at_=Z.at_:=by rw [hZ]
  have ebo:bo=Z.bo:=by rw [hZ]
  rw [ebo] at h2a
  have HX2:=Lib.hid hx2
  have HH2:=Lib.hid h2a
  have HRZ:=Lib.hid hRZ
  have HZ:=Lib.hid (And.intro ebd (And.intro eat ebo))
  clear hx2 h2 h2a hRZ HR hZ
  subst ebd eat ebo
  go_wp2_with fail
  go_at_call 83
  refine (c83 HRZ.out HX2.out (by rw [Hs.out.1,Lx.nSt_len]; have:=Hs.out.2.2.2.1; omega) (by rw [Hs.out.1]; exact pre83 Hg.out) (by rw [Hs.out.1]; exact pre83b Hg.out) HH2.out).mono ?_
  rintro e w3 ⟨rfl,L0,pos3,sa,sc,hlof,hx3,h3⟩
  rw [Hs.out.1] at hlof
  have b1:=(Bas.of_lof hlof).fin
  have HX3:=Lib.hid hx3
  have HH3:=Lib.hid h3
  have HL:=Lib.hid hlof
  have hln:(finS L0).length<1000000:=by rw [b1.len]; have:=Hs.out.2.2.2.1; omega
  have B1:=Lib.hid (And.intro b1 hln)
  clear hx3 h3 hlof b1 hln HX1 HX2 HH1 HH2
  go_wp2_with fail
  go_at_call 84
  refine (c84 HRZ.out HX3.out (by rw [ruN_len]; exact Hs.out.2.2.2.2.2.2) B1.out.2 B1.out.1.num (pre_rs B1.out.1) (pre_ru Hg.out B1.out.1 (by omega)) (fun t ht=>B1.out.1.kok Hg.out ht) HH3.out).mono ?_
  rintro e w4 ⟨rfl,L2,pos4,g6,g7,g8,vs,hu,hx4,h4⟩
  have b2:=B1.out.1.stu hu
  obtain ⟨t5,ht5,hk5⟩:=pre85 b2
  obtain ⟨hp1,hp2⟩:=pre87 Hg.out HL.out hu
  have hln2:L2.length<1000000:=by rw [hu.len]; exact B1.out.2
  have HX4:=Lib.hid hx4
  have HH4:=Lib.hid h4
  have HU:=Lib.hid hu
  have B2:=Lib.hid (And.intro b2 (And.intro ht5 (And.intro hk5 (And.intro hp1 (And.intro hp2 hln2)))))
  clear hx4 h4 hu b2 ht5 hk5 hp1 hp2 hln2 HX3 HH3
  go_wp2_with fail
  go_at_call 85
  refine (c85 HRZ.out HX4.out B2.out.2.1 B2.out.2.2.1 HH4.out).mono ?_
  rintro e w5 ⟨rfl,pos5,g5,hx5,h5⟩
  have HX5:=Lib.hid hx5
  have HH5:=Lib.hid h5
  clear hx5 h5 HX4 HH4
  go_wp2_with fail
  go_at_call 86
  refine (c86 HRZ.out HX5.out HH5.out).mono ?_
  rintro e w6 ⟨rfl,hx6,h6⟩
  have HX6:=Lib.hid hx6
  have HH6:=Lib.hid h6
  clear hx6 h6 HX5 HH5
  go_wp2_with fail
  go_at_call 87
  refine (c87 HRZ.out HX6.out Hs.out.2.2.2.2.1 B2.out.2.2.2.2.2 B2.out.2.2.2.1 (by rw [Hs.out.2.1]; exact preE Hg.out B2.out.1) (fun t ht=>B2.out.1.kok Hg.out ht) B2.out.2.2.2.2.1 HH6.out).mono ?_
  rintro e w7 ⟨rfl,L3,ts,he,L4,hX,pos7,hx7,h7⟩
  rw [Hs.out.2.1] at he
  have b4:=(B2.out.1.edu he).xu hX
  have hln4:L4.length<1000000:=by rw [b4.len]; have:=Hs.out.2.2.2.1; omega
  have HX7:=Lib.hid hx7
  have HH7:=Lib.hid h7
  have HE:=Lib.hid (And.intro he (And.intro hX (And.intro b4 hln4)))
  clear hx7 h7 he hX b4 hln4 HX6 HH6
  go_wp2_with fail
  go_at_call 88
  have h7a:St B w0 (zwL Z pos7 { (⟨.slice none 0 0,.slice none 0 0,mt,.map (some mb),.slice (some ⟨g5,0,none⟩) 1 1,.slice (some ⟨g6,0,none⟩) (ruN rules).length (ruN rules).length,.slice (some ⟨g7,0,none⟩) (ruN rules).length (ruN rules).length,.slice (some ⟨g8,0,none⟩) (ruN rules).length (ruN rules).length⟩:AtC) with dts:=.slice none 0 0 } sa sc L4 ++
      (stars (ts.map tpP)::pts g5 239 [.pointer (some ⟨t5.b,0,none⟩)]::pts g7 271 vs::pts g6 305 ((ruN rules).map (rsV (finS L0)))::pts g8 3 ((ruN rules).map rtV)::pts Z.bo 283 [.bool false,.bool true,.bool false]::r)) w7:=HH7.out
  refine (c88 HRZ.out HX7.out Hs.out.2.2.2.2.2.1 HE.out.2.2.2 (by rw [Hs.out.2.2.1]; exact preD HE.out.2.2.1) h7a).mono ?_
  rintro e w8 ⟨rfl,L5,hd,pos8,hx8,ga,ca,h8⟩
  rw [Hs.out.2.2.1] at h8
  have h8a:=h8.perm (List.perm_middle (l₁:=zwL Z pos8 _ sa sc L5)).symm
  have HX8:=Lib.hid hx8
  have HH8:=Lib.hid h8a
  have HD:=Lib.hid hd
  clear hx8 h8 h7a h8a hd HX7 HH7
  go_wp2_with fail
  go_at_call 89
  refine (c89 HRZ.out HX8.out HH8.out).mono ?_
  rintro e w9 ⟨rfl,la,hx9,h9⟩
  have b5:=HE.out.2.2.1.du HD.out
  have hmap:L5.map ifL=(finS L0).map ifL:=by rw [HD.out.map,HE.out.2.1.map,HE.out.1.map,HU.out.map]
  have hln5:L5.length<1000000:=by rw [HD.out.len]; exact HE.out.2.2.2
  have hrs:rsV (finS L0)=rsV L5:=by funext x; unfold rsV; rw [lkp_map hmap]
  rw [hrs] at h9
  have h9a:St B w0 (zwL Z (pos8+1) (⟨.slice ga (0::Lx.cDec rules 1).length ca,la,mt,.map (some mb),.slice (some ⟨g5,0,none⟩) 1 1,.slice (some ⟨g6,0,none⟩) (ruN rules).length (ruN rules).length,.slice (some ⟨g7,0,none⟩) (ruN rules).length (ruN rules).length,.slice (some ⟨g8,0,none⟩) (ruN rules).length (ruN rules).length⟩:AtC) sa sc L5 ++
      (pts g6 305 ((ruN rules).map (rsV L5))::Osl (.slice ga (0::Lx.cDec rules 1).length ca) 116 1 (0::Lx.cDec rules 1).length ((0::Lx.cDec rules 1).map (lk L4))::stars (ts.map tpP)::pts g5 239 [.pointer (some ⟨t5.b,0,none⟩)]::pts g7 271 vs::pts g8 3 ((ruN rules).map rtV)::pts Z.bo 283 [.bool false,.bool true,.bool false]::r)) w9:=by
    refine St.perm h9 (List.Perm.append_left _ ?_)
    exact List.perm_middle (l₁:=[_,_,_,_])
  have HH9:=Lib.hid h9a
  have B5:=Lib.hid (And.intro b5 (And.intro hmap hln5))
  clear h9 h9a b5 hmap hln5 hrs hx9 HX8 HH8
  go_wp2_with fail
  go_at_call 90
  refine (c90 (ruls:=ruN rules) (g6:=g6) (by rw [ruN_len]; exact Hs.out.2.2.2.2.2.2) B5.out.2.2 rfl (pre_rs B5.out.1) (pre_ru Hg.out B5.out.1 (by omega)) (fun t ht=>B5.out.1.kok Hg.out ht) HH9.out).mono ?_
  rintro e w10 ⟨rfl,h10⟩
  have h10a:St B w0 (zwL Z (pos8+1) (⟨.slice ga (0::Lx.cDec rules 1).length ca,la,mt,.map (some mb),.slice (some ⟨g5,0,none⟩) 1 1,.slice (some ⟨g6,0,none⟩) (ruN rules).length (ruN rules).length,.slice (some ⟨g7,0,none⟩) (ruN rules).length (ruN rules).length,.slice (some ⟨g8,0,none⟩) (ruN rules).length (ruN rules).length⟩:AtC) sa sc L5 ++
      (stars (ts.map tpP)::pts Z.bo 283 [.bool false,.bool true,.bool false]::pts g6 305 ((ruN rules).map (rsV L5))::Osl (.slice ga (0::Lx.cDec rules 1).length ca) 116 1 (0::Lx.cDec rules 1).length ((0::Lx.cDec rules 1).map (lk L4))::pts g5 239 [.pointer (some ⟨t5.b,0,none⟩)]::pts g7 271 vs::pts g8 3 ((ruN rules).map rtV)::r)) w10:=by
    refine St.perm h10 (List.Perm.append_left _ ?_)
    exact (List.perm_middle (l₁:=[_,_])).trans ((List.perm_middle (l₁:=[_,_,_,_,_])).cons _)
  have hV:=chainV Hg.out (by exact HR0.out) HL.out HU.out HE.out.1 HE.out.2.1 HD.out
  have y0:w10.cell? ⟨Z.bd,0,none⟩=some (.pointer (some ⟨Z.bo,0,none⟩)):=h10a.cells.1 0
  have y2:w10.cell? ⟨Z.bo,2,none⟩=some (.bool false):=(h10a.pick 5).cells.1 2
  have HH10:=Lib.hid h10a
  have HV:=Lib.hid hV
  clear h10 h10a hV HH9
  go_wp2_with fail
  go_at_call 91
  refine (c91 B5.out.2.2 HV.out HH10.out).mono ?_
  rintro e w11 ⟨rfl,rfl⟩
  go_wp2_with (first
    | (go_at_call 92; refine (c92 _ _ _ y2).mono ?_; rintro e w12 ⟨rfl,rfl⟩))
  go_ret
  obtain ⟨t0,ht0⟩:=B5.out.1.get (i:=0) (by omega)
  have ht5:lkp L5 0=.pointer (some ⟨t5.b,0,none⟩):=by
    rw [lkp_map (L:=L2) (by rw [HD.out.map,HE.out.2.1.map,HE.out.1.map])]
    unfold lkp
    rw [B2.out.2.1]
  refine ⟨Z.at_,⟨.slice ga (0::Lx.cDec rules 1).length ca,la,mt,.map (some mb),.slice (some ⟨g5,0,none⟩) 1 1,.slice (some ⟨g6,0,none⟩) (ruN rules).length (ruN rules).length,.slice (some ⟨g7,0,none⟩) (ruN rules).length (ruN rules).length,.slice (some ⟨g8,0,none⟩) (ruN rules).length (ruN rules).length⟩,L4,L5,ts,sa,sc,g5,g6,g7,g8,vs,ga,ca,dzC Z.bo Z.da Z.dn Z.dc (pos8+1),rfl,?_,?_⟩
  · refine ⟨B5.out.1,HV.out,?_,?_,HE.out.1.ds,⟨t0,ht0,rfl⟩,rfl,rfl,?_⟩
    · intro j x hx
      obtain ⟨_,_,g4,rfl,_⟩:=HD.out.back hx
      obtain ⟨_,_,_,g3,rfl,_⟩:=HE.out.2.1.back g4
      obtain ⟨_,_,_,g2,rfl⟩:=HE.out.1.back g3
      rfl
    · intro y hy
      obtain ⟨t,ht,hT⟩:=HE.out.1.ok y hy
      obtain ⟨t5,ht5⟩:=B5.out.1.get (B2.out.1.lt ht)
      refine ⟨t5,ht5,?_⟩
      obtain ⟨_,_,g4,rfl,_⟩:=HD.out.back ht5
      obtain ⟨_,_,_,g3,rfl,_⟩:=HE.out.2.1.back g4
      obtain ⟨_,_,_,g2,rfl⟩:=HE.out.1.back g3
      rw [ht] at g2; cases g2
      exact hT
    · exact (lk_map HD.out.map).symm
  · have hfin:=HH10.out
    rw [← ht5] at hfin
    exact hfin
end Go.Proofs.YtbcngfgemjdllaaGreatDoor
end
