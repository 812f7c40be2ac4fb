/- Part 4: Pl3, D6, D7, D8. -/
import Derived.Stop.Asserts
import Derived.Test.YtbcngfgemjdllaaGreatDoorB02
import Derived.Test.YtbcngfgemjdllaaGreatDoorB03
set_option linter.unusedVariables false
set_option linter.unusedSimpArgs false
section
namespace Lx
def epsOnly (trs:List Tr):Bool := !trs.isEmpty && trs.all Tr.isEps
def clo (out:Nat→List Tr):Nat→Nat→List Nat
  | 0,_=>[]
  | n+1,s=>if epsOnly (out s) then (out s).flatMap (fun tr=>clo out n tr.to) else [s]
def Dep (out:Nat→List Tr):Nat→Nat→Prop
  | 0,_=>False
  | n+1,s=>epsOnly (out s)=true→∀ tr ∈ out s,Dep out n tr.to
abbrev Cf:=Nat × Nat
structure CS where
  cf:List Cf
  ask:List Cf
def add1 (h:Cf→Int) (S:CS) (x:Cf):CS:=⟨if S.cf.any (fun y=>h y == h x) then S.cf else S.cf++[x],S.ask++[x]⟩
def adds (h:Cf→Int) (S:CS) (xs:List Cf):CS:=xs.foldl (add1 h) S
def st0 (out:Nat→List Tr) (n:Nat):List Cf:=(out 0).zipIdx.flatMap fun x=>(clo out n x.1.to).map (·,x.2+1)
def rch1 (out:Nat→List Tr) (n:Nat) (L:List Cf) (c:Int):List Cf:=L.flatMap fun x=>(out x.1).flatMap fun tr=>if tr.fits c then (clo out n tr.to).map (·,x.2) else []
structure DS where
  sts:List (List Cf)
  edges:Nat→Nat→Option (Option Nat)
  asked:List (List Cf × List Cf)
  s0:Option Nat
section
variable (h:Cf→Int) (hs:List Cf→Int)
def DS.find (D:DS) (cf:List Cf):Option Nat:=D.sts.findIdx? fun d=>hs d == hs cf && d.length == cf.length
def DS.addS (D:DS) (S:CS):DS × Nat :=
  match D.find hs S.cf with
  | some k=>({ D with asked:=D.asked++[(S.cf,S.ask)] },k)
  | none=>({ D with sts:=D.sts++[S.cf],asked:=D.asked++[(S.cf,S.ask),(S.cf,S.ask)] },D.sts.length)
def DS.setE (D:DS) (k c:Nat) (r:Option Nat):DS := { D with edges:=fun k' c'=>if k'=k∧c'=c then some r else D.edges k' c' }
variable (out:Nat→List Tr) (n:Nat)
def DS.cfs (D:DS) (k:Nat):List Cf:=D.sts.getD k []
def DS.stepD (D:DS) (k c:Nat):DS × Option Nat :=
  match D.edges k c with
  | some r=>(D,r)
  | none =>
    let S:=adds h ⟨[],[]⟩ (rch1 out n (D.cfs k) c)
    if S.cf=[] then (D.setE k c none,none)
    else ((D.addS hs S).1.setE k c (some (D.addS hs S).2),some (D.addS hs S).2)
def DS.startD (D:DS):DS × Nat :=
  match D.s0 with
  | some k=>(D,k)
  | none =>
    let S:=adds h ⟨[],[]⟩ (st0 out n)
    ({ (D.addS hs S).1 with s0:=some (D.addS hs S).2 },(D.addS hs S).2)
def accd (stop:Nat→Bool) (L:List Cf):Option Cf:=L.find? fun x=>stop x.1
structure AccR where
  pos:Nat
  ln:Nat
  col:Nat
  st:Nat
def moved (ln col c:Nat):Nat × Nat:=if c=10 then (ln+1,0) else (ln,col+1)
def runF (stop:Nat→Bool):List Nat→DS→Nat→Nat→Nat→Nat→Option AccR→DS × Option AccR × Nat × Bool
  | [],D,_,pos,_,_,acc=>(D,acc,pos,true)
  | c :: cs, D, k, pos, ln, col, acc =>
    match (D.stepD h hs out n k c).2 with
    | none=>((D.stepD h hs out n k c).1,acc,pos,false)
    | some k'=>runF stop cs (D.stepD h hs out n k c).1 k' (pos+1) (moved ln col c).1 (moved ln col c).2
        (if (accd stop ((D.stepD h hs out n k c).1.cfs k')).isSome then some ⟨pos+1,(moved ln col c).1,(moved ln col c).2,k'⟩ else acc)
structure Tok where
  kind:Int
  start:Nat
  stop:Nat
  ln:Nat
  col:Nat
inductive Res where
  | tok (t:Tok)
  | eof
  | fail
def match1 (stop:Nat→Bool) (kindOf:Nat→Int) (D:DS) (cs:List Nat) (pos ln col:Nat):DS × Res :=
  let r:=runF h hs out n stop cs (D.startD h hs out n).1 (D.startD h hs out n).2 pos ln col
    (if (accd stop ((D.startD h hs out n).1.cfs (D.startD h hs out n).2)).isSome then some ⟨pos,ln,col,(D.startD h hs out n).2⟩ else none)
  (r.1,match r.2.1 with
    | some a=>.tok ⟨kindOf (((accd stop (r.1.cfs a.st)).getD (0,0)).1),pos,a.pos,a.ln,a.col⟩
    | none=>if r.2.2.2 && r.2.2.1 == pos then .eof else .fail)
end
section
variable {h:Cf→Int}
theorem adds_ask (xs:List Cf):∀ S:CS,(adds h S xs).ask=S.ask++xs:=by
  induction xs with
  | nil=>intro S; simp [adds]
  | cons x xs ih=>intro S; rw [show adds h S (x::xs)=adds h (add1 h S x) xs from rfl,ih]; simp [add1]
theorem adds_append (S:CS) (xs ys:List Cf):adds h S (xs++ys)=adds h (adds h S xs) ys:=by simp [adds]
def dd:List Cf→List Cf→List Cf
  | acc,[]=>acc
  | acc,x::xs=>dd (if x ∈ acc then acc else acc++[x]) xs
theorem adds_dd (xs:List Cf):∀ S:CS,(∀ x ∈ S.cf,x ∈ S.ask)→(∀ x ∈ S.ask++xs,∀ y ∈ S.ask++xs,h x=h y→x=y)→(adds h S xs).cf=dd S.cf xs:=by
  induction xs with
  | nil=>intro S _ _; simp [adds,dd]
  | cons x xs ih =>
    intro S hsub hinj
    rw [show adds h S (x::xs)=adds h (add1 h S x) xs from rfl]
    have hiff:S.cf.any (fun y=>h y == h x)=decide (x ∈ S.cf):=by
      rw [Bool.eq_iff_iff]
      simp only [List.any_eq_true,beq_iff_eq,decide_eq_true_eq]
      constructor
      · rintro ⟨y,hy,e⟩
        have:=hinj y (by simp [hsub y hy]) x (by simp) e
        exact this ▸ hy
      · exact fun hx=>⟨x,hx,rfl⟩
    have hcf:(add1 h S x).cf=if x ∈ S.cf then S.cf else S.cf++[x]:=by simp only [add1,hiff,decide_eq_true_eq]
    rw [ih (add1 h S x) ?_ ?_,hcf]
    · rfl
    · intro y hy
      rw [hcf] at hy
      simp only [add1,List.mem_append,List.mem_singleton]
      split at hy
      · exact .inl (hsub y hy)
      · rcases List.mem_append.1 hy with hy | hy
        · exact .inl (hsub y hy)
        · exact .inr (by simpa using hy)
    · intro y hy z hz e
      simp only [add1,List.append_assoc,List.singleton_append] at hy hz
      exact hinj y hy z hz e
theorem mem_dd (xs:List Cf):∀ (acc:List Cf) (x:Cf),x ∈ dd acc xs ↔ x ∈ acc∨x ∈ xs:=by
  induction xs with
  | nil=>intro acc x; simp [dd]
  | cons y xs ih =>
    intro acc x
    simp only [dd,ih,List.mem_cons]
    split
    · constructor
      · intro h
        rcases h with h | h
        · exact .inl h
        · exact .inr (.inr h)
      · intro h
        rcases h with h | h | h
        · exact .inl h
        · exact .inl (h ▸ ‹_›)
        · exact .inr h
    · simp only [List.mem_append,List.mem_singleton]
      constructor
      · intro h
        rcases h with (h | h) | h
        · exact .inl h
        · exact .inr (.inl h)
        · exact .inr (.inr h)
      · intro h
        rcases h with h | h | h
        · exact .inl (.inl h)
        · exact .inl (.inr h)
        · exact .inr h
def Asc (L:List Cf):Prop:=L.Pairwise fun x y=>x.2≤y.2
theorem asc_dd (xs:List Cf):∀ acc:List Cf,Asc (acc++xs)→Asc (dd acc xs):=by
  induction xs with
  | nil=>intro acc h; simpa [dd] using h
  | cons y xs ih =>
    intro acc h
    simp only [dd]
    split
    · refine ih acc (List.Pairwise.sublist ?_ h)
      exact List.Sublist.append_left (List.sublist_cons_self _ _) _
    · refine ih _ ?_
      simpa using h
end
section
variable {out:Nat→List Tr} {t:List Nat}
def Plain (out:Nat→List Tr):Prop:=∀ s,out s=[]∨epsOnly (out s)=true∨∃ a b q,out s=[.sym a b q]
theorem eps_of_only {trs:List Tr} (h:epsOnly trs=true) {tr:Tr} (htr:tr ∈ trs):tr=.eps tr.to:=by
  simp only [epsOnly,Bool.and_eq_true,List.all_eq_true] at h
  have:=h.2 tr htr
  cases tr with
  | eps=>rfl
  | sym=>simp [Tr.isEps] at this
def Kept (out:Nat→List Tr) (s:Nat):Prop:=epsOnly (out s)=false
theorem clo_sound:∀ (n s q:Nat),q ∈ clo out n s→Kept out q∧∀ i,Rch out t (s,i) (q,i)
  | 0,s,q,h=>by simp [clo] at h
  | n + 1, s, q, h => by
    simp only [clo] at h
    by_cases he:epsOnly (out s)=true
    · rw [if_pos he] at h
      obtain ⟨tr,htr,hq⟩:=List.mem_flatMap.1 h
      obtain ⟨hk,hr⟩:=clo_sound n tr.to q hq
      refine ⟨hk,fun i=>.head (.eps ?_) (hr i)⟩
      rw [← eps_of_only he htr]; exact htr
    · rw [if_neg he] at h
      simp at h
      subst h
      exact ⟨by simpa [Kept] using he,fun i=>.refl _⟩
theorem clo_complete:∀ (n s:Nat),Dep out n s→∀ m i q j,Pth out t m (s,i) (q,j)→Kept out q→∃ q' ∈ clo out n s,∃ m'≤m,Pth out t m' (q',i) (q,j)
  | 0,s,hd,_,_,_,_,_,_=>hd.elim
  | n + 1, s, hd, m, i, q, j, hp, hk => by
    simp only [clo]
    by_cases he:epsOnly (out s)=true
    · rw [if_pos he]
      cases hp with
      | nil=>rw [Kept,he] at hk; cases hk
      | cons hs hp =>
        cases hs with
        | eps h' =>
          obtain ⟨q',hq',m',hm',hp'⟩:=clo_complete n _ (hd he _ h') _ _ _ _ hp hk
          exact ⟨q',List.mem_flatMap.2 ⟨_,h',hq'⟩,m',by omega,hp'⟩
        | sym h'=>have:=eps_of_only he h'; cases this
    · rw [if_neg he]
      exact ⟨s,by simp,m,Nat.le_refl _,hp⟩
end
section
variable {out:Nat→List Tr} {t:List Nat}
theorem Pth.le {m:Nat} {x y:Nat × Nat} (p:Pth out t m x y):x.2≤y.2:=by
  induction p with
  | nil=>exact Nat.le_refl _
  | cons h _ ih=>cases h with
    | eps=>exact ih
    | sym=>exact Nat.le_trans (Nat.le_succ _) ih
theorem Pth.kept {m s q i:Nat} (hpl:Plain out) (hk:Kept out s) (p:Pth out t m (s,i) (q,i)):s=q:=by
  cases p with
  | nil=>rfl
  | cons h p =>
    cases h with
    | eps h' =>
      rcases hpl s with h0 | h0 | ⟨a,b,q',h0⟩
      · rw [h0] at h'; cases h'
      · rw [Kept,h0] at hk; cases hk
      · rw [h0] at h'; simp at h'
    | sym=>have:=p.le; simp at this; omega
theorem clo_iff (hpl:Plain out) {n s:Nat} (hd:Dep out n s) (q i:Nat):q ∈ clo out n s ↔ Kept out q∧Rch out t (s,i) (q,i):=by
  constructor
  · intro h
    obtain ⟨h1,h2⟩:=clo_sound (t:=t) n s q h
    exact ⟨h1,h2 i⟩
  · rintro ⟨hk,m,p⟩
    obtain ⟨q',hq',m',_,p'⟩:=clo_complete n s hd m i q i p hk
    obtain ⟨hk',_⟩:=clo_sound (t:=t) n s q' hq'
    rw [← p'.kept hpl hk']; exact hq'
theorem Pth.cross {m:Nat} {x y:Nat × Nat} (p:Pth out t m x y):∀ i,x.2≤i→i<y.2→∃ s a b q c m',Rch out t x (s,i)∧Tr.sym a b q ∈ out s∧t[i]? = some c∧a≤(c:Int)∧(c:Int)≤b∧Pth out t m' (q,i+1) y:=by
  induction p with
  | nil=>intro i h1 h2; omega
  | @cons x y z n h p ih =>
    intro i h1 h2
    cases h with
    | @eps s q j h' =>
      obtain ⟨s',a,b,q',c,m',hr,rest⟩:=ih i h1 h2
      exact ⟨s',a,b,q',c,m',.head (.eps h') hr,rest⟩
    | @sym s q j c a b h' hc ha hb =>
      simp only at h1 ih
      by_cases e:j=i
      · subst e
        exact ⟨s,a,b,q,c,_,.refl _,h',hc,ha,hb,p⟩
      · obtain ⟨s',a',b',q',c',m',hr,rest⟩:=ih i (by omega) h2
        exact ⟨s',a',b',q',c',m',.head (.sym h' hc ha hb) hr,rest⟩
theorem kept_of_sym {s q:Nat} {a b:Int} (h:Tr.sym a b q ∈ out s):Kept out s:=by
  unfold Kept
  cases he:epsOnly (out s) with
  | false=>rfl
  | true=>have:=eps_of_only he h; cases this
structure At (out:Nat→List Tr) (t:List Nat) (i0 i:Nat) (L:List Cf):Prop where
  mem:∀ s a,(s,a) ∈ L ↔ Kept out s∧∃ f r,a=r+1∧(out 0)[r]? = some (.eps f)∧Rch out t (f,i0) (s,i)
  asc:Asc L
theorem asc_map (l:List Nat) (a:Nat):Asc (l.map (·,a)):=by
  unfold Asc; rw [List.pairwise_map]; exact List.pairwise_of_forall (by simp)
theorem asc_append {L M:List Cf} (h1:Asc L) (h2:Asc M) (h:∀ x ∈ L,∀ y ∈ M,x.2≤y.2):Asc (L++M):=List.pairwise_append.2 ⟨h1,h2,h⟩
theorem at_start {n:Nat} (hpl:Plain out) (h0:∀ tr ∈ out 0,tr=.eps tr.to∧Dep out n tr.to) (i0:Nat):At out t i0 i0 (dd [] (st0 out n)):=by
  refine ⟨fun s a => ?_,asc_dd _ _ ?_⟩
  · rw [mem_dd]
    simp only [List.not_mem_nil,false_or,st0,List.mem_flatMap,List.mem_map,Prod.mk.injEq]
    constructor
    · rintro ⟨⟨tr,r⟩,hx,q,hq,rfl,rfl⟩
      have hx':=List.mem_zipIdx' hx
      simp only at hx' hq ⊢
      have hmem:tr ∈ out 0:=by rw [hx'.2]; exact List.getElem_mem _
      obtain ⟨e,hd⟩:=h0 tr hmem
      obtain ⟨hk,hr⟩:=(clo_iff (t:=t) hpl hd q i0).1 hq
      refine ⟨hk,tr.to,r,rfl,?_,hr⟩
      rw [List.getElem?_eq_getElem hx'.1,← hx'.2,← e]
    · rintro ⟨hk,f,r,rfl,hr,hp⟩
      refine ⟨(.eps f,r),List.mem_zipIdx_iff_getElem?.2 hr,s,?_,rfl,rfl⟩
      exact (clo_iff (t:=t) hpl (h0 _ (List.mem_of_getElem? hr)).2 s i0).2 ⟨hk,hp⟩
  · simp only [List.nil_append]
    have key:∀ (l:List Tr) (k:Nat),Asc ((l.zipIdx k).flatMap fun x=>(clo out n x.1.to).map (·,x.2+1))∧∀ y ∈ (l.zipIdx k).flatMap fun x=>(clo out n x.1.to).map (·,x.2+1),k+1≤y.2:=by
      intro l
      induction l with
      | nil=>intro k; simp [Asc]
      | cons x l ih =>
        intro k
        obtain ⟨h1,h2⟩:=ih (k+1)
        simp only [List.zipIdx_cons,List.flatMap_cons]
        refine ⟨asc_append (asc_map _ _) h1 ?_,?_⟩
        · intro y hy z hz
          obtain ⟨q,_,rfl⟩:=List.mem_map.1 hy
          have:=h2 z hz
          simp only; omega
        · intro y hy
          rcases List.mem_append.1 hy with hy | hy
          · obtain ⟨q,_,rfl⟩:=List.mem_map.1 hy
            simp
          · have:=h2 y hy; omega
    exact (key (out 0) 0).1
theorem at_step {n:Nat} (hpl:Plain out) (hdep:∀ s a b q,Tr.sym a b q ∈ out s→Dep out n q) {i0 i c:Nat} {L:List Cf} (h:At out t i0 i L) (hi:i0≤i) (hc:t[i]? = some c) :
    At out t i0 (i+1) (dd [] (rch1 out n L c)):=by
  refine ⟨fun s a => ?_,asc_dd _ _ ?_⟩
  · rw [mem_dd]
    simp only [List.not_mem_nil,false_or,rch1,List.mem_flatMap]
    constructor
    · rintro ⟨⟨p,a'⟩,hx,tr,htr,hy⟩
      simp only at hy htr
      split at hy
      · rename_i hf
        obtain ⟨q,hq,e⟩:=List.mem_map.1 hy
        simp only [Prod.mk.injEq] at e
        obtain ⟨rfl,rfl⟩:=e
        obtain ⟨_,f,r,rfl,hr,hp⟩:=(h.mem p a').1 hx
        cases tr with
        | eps=>simp [Tr.fits] at hf
        | sym u v q1 =>
          simp only [Tr.fits,Bool.and_eq_true,decide_eq_true_eq] at hf
          obtain ⟨hk,hr2⟩:=(clo_iff (t:=t) hpl (hdep _ _ _ _ htr) q (i+1)).1 hq
          exact ⟨hk,f,r,rfl,hr,hp.trans (.head (.sym htr hc hf.1 hf.2) hr2)⟩
      · simp at hy
    · rintro ⟨hk,f,r,rfl,hr,m,hp⟩
      obtain ⟨p,u,v,q1,c',m',hr1,hsym,hc',hu,hv,hp2⟩:=hp.cross i (by simpa using hi) (by simp)
      rw [hc] at hc'
      obtain rfl:c=c':=by simpa using hc'
      refine ⟨(p,r+1),(h.mem p (r+1)).2 ⟨kept_of_sym hsym,f,r,rfl,hr,hr1⟩,_,hsym,?_⟩
      rw [if_pos (by simp [Tr.fits,hu,hv])]
      exact List.mem_map.2 ⟨s,(clo_iff (t:=t) hpl (hdep _ _ _ _ hsym) s (i+1)).2 ⟨hk,_,hp2⟩,rfl⟩
  · simp only [List.nil_append]
    have hL:=h.asc
    clear h
    unfold rch1
    induction L with
    | nil=>simp [Asc]
    | cons x L ih =>
      simp only [List.flatMap_cons]
      have hall:∀ (l:List Tr),(∀ y ∈ l.flatMap (fun tr=>if tr.fits c then (clo out n tr.to).map (·,x.2) else []),y.2=x.2):=by
        intro l y hy
        obtain ⟨tr,_,hy⟩:=List.mem_flatMap.1 hy
        split at hy
        · obtain ⟨q,_,rfl⟩:=List.mem_map.1 hy; rfl
        · simp at hy
      refine asc_append ?_ (ih (List.Pairwise.of_cons hL)) ?_
      · have:=hall (out x.1)
        unfold Asc
        rw [List.pairwise_iff_forall_sublist]
        intro y z hyz
        have hy:=this y (hyz.subset (by simp))
        have hz:=this z (hyz.subset (by simp))
        omega
      · intro y hy z hz
        rw [hall _ y hy]
        obtain ⟨w,hw,hz⟩:=List.mem_flatMap.1 hz
        have hxw:=List.rel_of_pairwise_cons hL hw
        have:z.2=w.2:=by
          obtain ⟨tr,_,hz⟩:=List.mem_flatMap.1 hz
          split at hz
          · obtain ⟨q,_,rfl⟩:=List.mem_map.1 hz; rfl
          · simp at hz
        omega
end
end Lx
end
section
namespace Go.Proofs.YtbcngfgemjdllaaGreatDoor
open Go.RowKit Go.Own
variable {kd bk xf pf:Nat→Nat} {B N A:Nat} {w0 w:World} {r:List HP} {X:HP}
def CfM.key (m:CfM):Nat × Nat:=(m.n,m.a)
theorem mfind_none {α : Type} {h:Int} {f : α → Int} {g : α → Value} : ∀ {l:List α},mfind h (l.map fun x=>(f x,g x))=none→∀ m ∈ l,f m≠h
  | [],_=>by simp
  | x :: l, hm => by
    simp only [List.map_cons,mfind] at hm
    split at hm
    · cases hm
    · rename_i hk
      intro m hmem
      rcases List.mem_cons.1 hmem with rfl | hmem
      · exact hk
      · exact mfind_none hm m hmem
structure SetH (kd bk xf pf:Nat→Nat) (B:Nat) (w0:World) (b jb mb cmb:Nat) (S:Lx.CS) (r:List HP) (w:World):Prop where
  ex:∃ av cv ms,ms.map CfM.key=S.cf∧St B w0 (SetX kd bk xf pf b av cv (-1) false jb mb cmb ms S.ask++r) w
theorem c143 (h:NetB kd bk B w0 N) (hcx:CtxX xf pf B w0 X A) {b jb mb cmb cb:Nat} {S:Lx.CS} {x:Nat × Nat} (hx:x.1<N) (ha:x.2<A) (hX:X ∈ r) (hms:∀ y ∈ S.cf,y.2<A)
    (H:SetH kd bk xf pf B w0 b jb mb cmb S (pts cb 227 (cfN kd bk xf pf x)::r) w) (hl:S.cf.length<1099511627776) (hl2:S.ask.length<1099511627776) :
    Calls Tryz.prog 143 #[.pointer (some ⟨b,0,none⟩),.pointer (some ⟨cb,0,none⟩),.pointer none] w fun e w'=>e=.returned (.bool true)∧w'.heap[cb]? = some (ob 227 (cfN kd bk xf pf x))∧SetH kd bk xf pf B w0 b jb mb cmb (Lx.add1 hN S x) r w':=by
  obtain ⟨av,cv,ms,hkey,H⟩:=H.ex
  have H1:St B w0 (pts cb 227 (cfN kd bk xf pf x)::SetX kd bk xf pf b av cv (-1) false jb mb cmb ms S.ask++r) w:=by
    refine H.perm ?_
    simp only [List.cons_append]
    exact List.perm_middle
  have hlen:ms.length=S.cf.length:=by rw [← hkey]; simp
  cases hm:mfind (hN x) (ms.map fun m=>(hN (m.n,m.a),m.bv)) with
  | none =>
    refine (c143_new h hcx hx ha hX H1 hm (by omega) hl2).mono ?_
    rintro e w' ⟨rfl,hcb,av',cv',bv,H2⟩
    refine ⟨rfl,hcb,av',cv',_,?_,H2⟩
    have hany:S.cf.any (fun y=>hN y == hN x)=false:=by
      rw [← hkey,List.any_eq_false]
      intro y hy
      obtain ⟨m,hmem,rfl⟩:=List.mem_map.1 hy
      have:=mfind_none hm m hmem
      simpa [CfM.key] using this
    simp [Lx.add1,hany,hkey,CfM.key]
  | some v =>
    refine (c143_old h hcx hx ha hX (fun m hm=>hms _ (by rw [← hkey]; exact List.mem_map_of_mem hm)) H1 hm (by omega) hl2).mono ?_
    rintro e w' ⟨rfl,hcb,av',cv',H2⟩
    refine ⟨rfl,hcb,av',cv',ms,?_,H2⟩
    obtain ⟨m,hmem,hh,_⟩:=mfind_map hm
    have hany:S.cf.any (fun y=>hN y == hN x)=true:=by
      rw [← hkey,List.any_eq_true]
      exact ⟨_,List.mem_map_of_mem hmem,by simpa [CfM.key] using hh⟩
    simp [Lx.add1,hany,hkey]
end Go.Proofs.YtbcngfgemjdllaaGreatDoor
end
section
namespace Go.Proofs.YtbcngfgemjdllaaGreatDoor
open Go.RowKit Go.Own
variable {B N:Nat} {w0 w:World} {r:List HP}
@[go_sem] theorem as_dec_hit {k:Nat} (hk:DOk k) (b:Nat) (w:World):(Instr.typeAssert (.iface (ty k) (.pointer (some ⟨b,0,none⟩))) 169 116 true).run Tryz.prog w=.ok (.tuple #[.iface (ty k) (.pointer (some ⟨b,0,none⟩)),.bool true]) w:=by
  rcases hk.is with rfl | rfl | rfl | rfl | rfl | rfl <;> kernel_rfl
structure NDk (k:Nat):Prop where
  is:k=1∨k=2∨k=7∨k=8∨k=9∨k=12
def decWant : Array (String × TypeId) := #[("AddTransition", 310), ("Equals", 576), ("GetATN", 252), ("GetEpsilonOnlyTransitions", 257),
            ("GetNextTokenWithinRule", 308), ("GetRuleIndex", 130), ("GetStateNumber", 130), ("GetStateType", 130),
            ("GetTransitions", 264), ("Hash", 130), ("SetATN", 253), ("SetNextTokenWithinRule", 577),
            ("SetRuleIndex", 148), ("SetStateNumber", 148), ("SetTransitions", 426), ("String", 558),
            ("loop.example/pub-tokensoflexers/pub/antlratn.getDecision", 130),
            ("loop.example/pub-tokensoflexers/pub/antlratn.getNonGreedy", 257),
            ("loop.example/pub-tokensoflexers/pub/antlratn.setDecision", 148),
            ("loop.example/pub-tokensoflexers/pub/antlratn.setNonGreedy", 302)]
@[go_sem] theorem as_dec_miss {k:Nat} (hk:NDk k) (b:Nat) (w:World):(Instr.typeAssert (.iface (ty k) (.pointer (some ⟨b,0,none⟩))) 169 116 true).run Tryz.prog w=.ok (.tuple #[.nilIface,.bool false]) w:=by
  rcases hk.is with rfl | rfl | rfl | rfl | rfl | rfl <;> exact run_typeAssert_lacksB (want:=decWant) (by kernel_rfl) (by kernel_rfl) (by kernel_rfl) _ _ _
theorem KOk.dec {k:Nat} (h:KOk k):DOk k∨NDk k:=by
  rcases h.cases with rfl | rfl | rfl | rfl | rfl | rfl | rfl | rfl | rfl | rfl | rfl | rfl <;> first | exact .inl ⟨by decide⟩ | exact .inr ⟨by decide⟩
set_option maxRecDepth 100000 in
theorem c206 {cb b k:Nat} (hk:KOk k) (h:w.cell? ⟨cb,8,none⟩=some (.bool false)) (hd:DOk k→w.cell? ⟨b,8,none⟩=some (.bool false)) :
    Calls Tryz.prog 206 #[.pointer (some ⟨cb,0,none⟩),.iface (ty k) (.pointer (some ⟨b,0,none⟩))] w fun e w'=>e=.returned (.bool false)∧w=w':=by
  rcases hk.dec with hk | hk
  · have hd:=hd hk
    go_enter Tryz.func206,Tryz.ntmps206
    go_wp2_with (first
      | (go_at_call 296; refine (c296 _ _ _ hd).mono ?_; rintro e w' ⟨rfl,rfl⟩))
    go_ret
    exact ⟨rfl,rfl⟩
  · go_enter Tryz.func206,Tryz.ntmps206
    go_wp2_with fail
    go_ret
    exact ⟨rfl,rfl⟩
def cfZ:List Value:=[.bool false,.nilIface,.int .i64 0,.pointer none,.nilIface,.int .i64 0,.int .i64 0,.pointer none,.bool false]
set_option maxRecDepth 100000 in
theorem c207 {nb cb k b:Nat} {a:Int} {xb pb:Nat} (hk:KOk k) (H:St B w0 (pts nb 227 cfZ::r) w) (h5:w.cell? ⟨cb,5,none⟩=some (.int .i64 0)) (h0:w.cell? ⟨cb,0,none⟩=some (.bool false)) (hne:cb≠nb) :
    Calls Tryz.prog 207 #[.pointer (some ⟨nb,0,none⟩),.pointer (some ⟨cb,0,none⟩),.iface (ty k) (.pointer (some ⟨b,0,none⟩)),.int .i64 a,.pointer (some ⟨xb,0,none⟩),.iface 428 (.pointer (some ⟨pb,0,none⟩))] w
      fun e w'=>e=.returned (.tuple #[])∧St B w0 (pts nb 227 (cfC k b a xb pb)::r) w':=by
  obtain ⟨hc,hf⟩:=H.cells
  unfold cfZ at hc
  have hc0:=hc 0
  have hc1:=hc 1
  have hc2:=hc 2
  have hc3:=hc 3
  have hc4:=hc 4
  have hc5:=hc 5
  simp only [List.getElem?_cons_zero,List.getElem?_cons_succ] at hc0 hc1 hc2 hc3 hc4 hc5
  have hf0:=hf 0
  have hf1:=hf 1
  have hf2:=hf 2
  have hf3:=hf 3
  have hf4:=hf 4
  have hf5:=hf 5
  clear hc hf
  go_enter Tryz.func207,Tryz.ntmps207
  go_wp2_with (first
      | (go_at_call 197; refine (c197 _ (.int .i64 0) _ (by simp [h5,hne,go_sem])).mono ?_; rintro e w' ⟨rfl,rfl⟩)
      | (go_at_call 203; refine (c203 _ (.bool false) _ (by simp [h0,hne,go_sem])).mono ?_; rintro e w' ⟨rfl,rfl⟩))
  go_end0
  exact ⟨rfl,(((((H.setCell (off:=1) (.iface (ty k) (.pointer (some ⟨b,0,none⟩)))).setCell (off:=2) (.int .i64 a)).setCell (off:=3) (.pointer (some ⟨xb,0,none⟩))).setCell (off:=4) (.iface 428 (.pointer (some ⟨pb,0,none⟩)))).setCell (off:=5) (.int .i64 0)).setCell (off:=0) (.bool false)⟩
set_option maxRecDepth 100000 in
set_option maxHeartbeats 1000000 in
theorem c210 {cb k b sb ks:Nat} {a:Int} {xb pb:Nat} (hk:KOk k) (H:St B w0 (pts cb 227 (cfC ks sb a xb pb)::r) w) (hd:∀ l w',St B w0 l w'→DOk k→w'.cell? ⟨b,8,none⟩=some (.bool false)) :
    Calls Tryz.prog 210 #[.pointer (some ⟨cb,0,none⟩),.iface (ty k) (.pointer (some ⟨b,0,none⟩))] w
      fun e w'=>∃ nb,e=.returned (.pointer (some ⟨nb,0,none⟩))∧St B w0 (pts nb 227 (cfC k b a xb pb)::pts cb 227 (cfC ks sb a xb pb)::r) w':=by
  have H1:St B w0 (pts w.heap.size 227 cfZ::pts cb 227 (cfC ks sb a xb pb)::r) (w.alloc (.cells #[.bool false,.nilIface,.int .i64 0,.pointer none,.nilIface,.int .i64 0,.int .i64 0,.pointer none,.bool false] 227)):=H.alloc (ob 227 cfZ)
  have hq7:∀ o,(w.alloc o).cell? ⟨cb,7,none⟩=some (.pointer none):=fun o=>((H.alloc o).pick 1).cells.1 7
  have hne:cb≠w.heap.size:=fun e=>(H1.ne) e.symm
  have hp8:=(H1.pick 1).cells.1 8
  have hd2:=hd _ _ H1
  have hq2:=(H1.pick 1).cells.1 2
  have hq3:=(H1.pick 1).cells.1 3
  have hq4:=(H1.pick 1).cells.1 4
  have hq5:=(H1.pick 1).cells.1 5
  have hq0:=(H1.pick 1).cells.1 0
  go_enter Tryz.func210,Tryz.ntmps210
  go_wp2_with (first
      | (go_at_call 206; go_must (refine (c206 hk hp8 hd2).mono ?_); rintro e w' ⟨rfl,rfl⟩)
      | (go_at_call 150; go_must (refine (c150 _ _ _ hq2).mono ?_); rintro e w' ⟨rfl,rfl⟩)
      | (go_at_call 200; go_must (refine (c200 _ _ _ hq3).mono ?_); rintro e w' ⟨rfl,rfl⟩)
      | (go_at_call 196; go_must (refine (c196 _ _ _ hq4).mono ?_); rintro e w' ⟨rfl,rfl⟩)
      | (go_at_call 207; go_must (refine (c207 hk H1 hq5 hq0 hne).mono ?_); rintro e w' ⟨rfl,H4⟩
         have h6:=H4.cells.1 6
         have f6:=H4.cells.2 6))
  go_ret
  exact ⟨_,rfl,H4.setCell (off:=6) (.int .i64 0)⟩
def predC:List Value:=[.int .i64 (-1),.int .i64 (-1),.bool false]
set_option maxRecDepth 100000 in
theorem c194 (H:St B w0 r w):Calls Tryz.prog 194 #[.int .i64 (-1),.int .i64 (-1),.bool false] w fun e w'=>∃ pb,e=.returned (.pointer (some ⟨pb,0,none⟩))∧St B w0 (pts pb 495 predC::r) w':=by
  go_enter Tryz.func194,Tryz.ntmps194
  go_wp2_with fail
  go_ret
  exact ⟨_,rfl,H.alloc (ob 495 predC)⟩
theorem c140 (H:St B w0 r w):Calls Tryz.prog 140 #[] w fun e w'=>∃ pb,e=.returned (.iface 428 (.pointer (some ⟨pb,0,none⟩)))∧St B w0 (pts pb 495 predC::r) w':=by
  go_enter Tryz.func140,Tryz.ntmps140
  go_wp2_with (first | (go_at_call 194; go_must (refine (c194 H).mono ?_); rintro e w' ⟨pb,rfl,H1⟩))
  go_ret
  exact ⟨_,rfl,H1⟩
theorem c102 (H:St B w0 r w):Calls Tryz.prog 102 #[] w fun e w'=>∃ xb,e=.returned (.pointer (some ⟨xb,0,none⟩))∧St B w0 (pts xb 351 ctxC::r) w':=by
  go_enter Tryz.func102,Tryz.ntmps102
  go_wp2_with fail
  go_ret
  exact ⟨_,rfl,H.alloc (ob 351 ctxC)⟩
set_option maxRecDepth 100000 in
theorem c101 {k b:Nat} {a:Int} {xb:Nat} (hk:KOk k) (H:St B w0 r w) :
    Calls Tryz.prog 101 #[.iface (ty k) (.pointer (some ⟨b,0,none⟩)),.int .i64 a,.pointer (some ⟨xb,0,none⟩)] w
      fun e w'=>∃ nb pb,e=.returned (.pointer (some ⟨nb,0,none⟩))∧St B w0 (pts nb 227 (cfC k b a xb pb)::pts pb 495 predC::r) w':=by
  have H1:=H.alloc (ob 227 [.bool false,.iface (ty k) (.pointer (some ⟨b,0,none⟩)),.int .i64 a,.pointer (some ⟨xb,0,none⟩),.nilIface,.int .i64 0,.int .i64 0,.pointer none,.bool false])
  go_enter Tryz.func101,Tryz.ntmps101
  go_wp2_with (first
      | (go_at_call 140; go_must (refine (c140 H1).mono ?_); rintro e w' ⟨pb,rfl,H2⟩
         have H2:=H2.pick 1
         have h4:=H2.cells.1 4
         have f4:=H2.cells.2 4
         have h6:=H2.cells.1 6
         have f6:=H2.cells.2 6
         simp only [List.getElem?_cons_zero,List.getElem?_cons_succ] at h4 h6))
  go_ret
  exact ⟨_,pb,rfl,(H2.setCell (off:=4) (.iface 428 (.pointer (some ⟨pb,0,none⟩)))).setCell (off:=6) (.int .i64 0)⟩
end Go.Proofs.YtbcngfgemjdllaaGreatDoor
end
section
namespace Go.Proofs.YtbcngfgemjdllaaGreatDoor
open Go.RowKit Go.Own
variable {B N:Nat} {w0 w:World} {r:List HP}
set_option maxRecDepth 100000 in
set_option maxHeartbeats 1000000 in
theorem c145_eps {l:Nat} {iv:Value} {sp:Bool} {b tb cb k kb sb ks:Nat} {a:Int} {xb pb:Nat} (hk:KOk k) (H:St B w0 (pts cb 227 (cfC ks sb a xb pb)::r) w) (hd:∀ l w',St B w0 l w'→DOk k→w'.cell? ⟨kb,8,none⟩=some (.bool false))
    (h4:w.cell? ⟨tb,4,none⟩=some (.int .i64 1)) (h0:w.cell? ⟨tb,0,none⟩=some (.iface (ty k) (.pointer (some ⟨kb,0,none⟩)))) :
    Calls Tryz.prog 145 #[.pointer (some ⟨l,0,none⟩),iv,.pointer (some ⟨cb,0,none⟩),.iface (tyT 1) (.pointer (some ⟨tb,0,none⟩)),.pointer (some ⟨b,0,none⟩),.bool sp,.bool false] w
      fun e w'=>∃ nb,e=.returned (.pointer (some ⟨nb,0,none⟩))∧St B w0 (pts nb 227 (cfC k kb a xb pb)::pts cb 227 (cfC ks sb a xb pb)::r) w':=by
  have ht:TOk 1:=⟨by simp⟩
  have m1:=m_tr_getSerializationType ht tb w
  have m2:=m_tr_getTarget ht tb w
  go_enter Tryz.func145,Tryz.ntmps145
  go_wp2_with (first
      | (go_at_call 322; refine (c322 _ _ _ h4).mono ?_; rintro e w' ⟨rfl,rfl⟩)
      | (go_at_call 126; refine (c126 _ _ _ h0).mono ?_; rintro e w' ⟨rfl,rfl⟩)
      | (go_at_call 210; refine (c210 hk H hd).mono ?_; rintro e w' ⟨nb,rfl,H1⟩))
  go_ret
  exact ⟨_,rfl,H1⟩
set_option maxRecDepth 100000 in
set_option maxHeartbeats 1000000 in
theorem c145_sym {l tk:Nat} {iv cv:Value} {sp:Bool} {b tb:Nat} (hk:tk=2∨tk=5) (h4:w.cell? ⟨tb,4,none⟩=some (.int .i64 tk)) :
    Calls Tryz.prog 145 #[.pointer (some ⟨l,0,none⟩),iv,cv,.iface (tyT tk) (.pointer (some ⟨tb,0,none⟩)),.pointer (some ⟨b,0,none⟩),.bool sp,.bool false] w
      fun e w'=>e=.returned (.pointer none)∧w=w':=by
  have ht:TOk tk:=⟨by rcases hk with rfl | rfl <;> simp⟩
  have m1:=m_tr_getSerializationType ht tb w
  rcases hk with rfl | rfl
  · go_enter Tryz.func145,Tryz.ntmps145
    go_wp2_with (first
        | (go_at_call 322; refine (c322 _ _ _ h4).mono ?_; rintro e w' ⟨rfl,rfl⟩))
    go_ret
    exact ⟨rfl,rfl⟩
  · go_enter Tryz.func145,Tryz.ntmps145
    go_wp2_with (first
        | (go_at_call 322; refine (c322 _ _ _ h4).mono ?_; rintro e w' ⟨rfl,rfl⟩))
    go_ret
    exact ⟨rfl,rfl⟩
end Go.Proofs.YtbcngfgemjdllaaGreatDoor
end
