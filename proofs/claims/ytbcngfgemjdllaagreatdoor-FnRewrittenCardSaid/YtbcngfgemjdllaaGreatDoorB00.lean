/- Part 0: Sl, Sl2, G1. -/
import Derived.WalkKit
import Derived.Below
import Derived.Lib.Hide
import Derived.OwnWalk
import Derived.Test.YtbcngfgemjdllaaGreatDoorProg
import Derived.WalkSpells
import Derived.Deep.QuietTactic
import Derived.BigQuiet
set_option linter.unusedVariables false
set_option linter.unusedSimpArgs false
section
namespace Go.Own
open Go.RowKit
abbrev Hp:=Nat→Option Obj
def HP:=Hp→Prop
def Hp.disj (a b:Hp):Prop:=∀ n,a n=none∨b n=none
def Hp.or (a b:Hp):Hp:=fun n=>(a n).or (b n)
def star (A C:HP):HP:=fun h=>∃ a c,Hp.disj a c∧h=Hp.or a c∧A a∧C c
def top:HP:=fun _=>True
def pto (b:Nat) (o:Obj):HP:=fun h=>h=fun n=>if n=b then some o else none
def stars (l:List HP):HP:=l.foldr star top
def ob (T:TypeId) (l:List Value):Obj:=.cells l.toArray T (0,0)
def pts (b:Nat) (T:TypeId) (l:List Value):HP:=pto b (ob T l)
def hpOf (B:Nat) (w:World):Hp:=fun n=>if n<B then none else w.heap[n]?
structure St (B:Nat) (w0:World) (l:List HP) (w:World):Prop where
  le:B≤w0.heap.size
  below:Below B w0 w
  own:stars l (hpOf B w)
theorem Hp.disj.symm {a b:Hp} (h:Hp.disj a b):Hp.disj b a:=fun n=>(h n).symm
theorem Hp.or_comm {a b:Hp} (h:Hp.disj a b):Hp.or a b=Hp.or b a:=by
  funext n; unfold Hp.or; rcases h n with h | h <;> simp [h]
theorem star_comm (A C:HP) {h:Hp} (H:star A C h):star C A h:=by
  obtain ⟨a,c,d,rfl,ha,hc⟩:=H
  exact ⟨c,a,d.symm,Hp.or_comm d,hc,ha⟩
theorem star_assoc1 {A C D:HP} {h:Hp} (H:star (star A C) D h):star A (star C D) h:=by
  obtain ⟨x,d,hd,rfl,⟨a,c,hac,rfl,ha,hc⟩,hD⟩:=H
  refine ⟨a,Hp.or c d,?_,?_,ha,c,d,?_,rfl,hc,hD⟩
  · intro n
    rcases hd n with h | h
    · have:a n=none:=by unfold Hp.or at h; cases e:a n <;> simp [e] at h ⊢
      exact .inl this
    · rcases hac n with h' | h'
      · exact .inl h'
      · exact .inr (by unfold Hp.or; simp [h,h'])
  · funext n; unfold Hp.or; cases a n <;> simp
  · intro n
    rcases hd n with h | h
    · left; unfold Hp.or at h; cases e:a n <;> simp [e] at h; exact h
    · exact .inr h
theorem star_assoc2 {A C D:HP} {h:Hp} (H:star A (star C D) h):star (star A C) D h :=
  star_comm _ _ (star_assoc1 (star_comm _ _ (star_assoc1 (star_comm _ _ H))))
theorem star_mono {A A' C C':HP} {h:Hp} (H:star A C h) (f:∀ x,A x→A' x) (g:∀ x,C x→C' x):star A' C' h:=by
  obtain ⟨a,c,d,e,ha,hc⟩:=H
  exact ⟨a,c,d,e,f _ ha,g _ hc⟩
theorem star_swap {A C D:HP} {h:Hp} (H:star A (star C D) h):star C (star A D) h :=
  star_assoc1 (star_mono (star_assoc2 H) (fun _=>star_comm _ _) fun _ h=>h)
theorem stars_append (l r:List HP) {h:Hp} (H:stars (l++r) h):star (stars l) (stars r) h:=by
  induction l generalizing h with
  | nil=>exact ⟨fun _=>none,h,fun _=>.inl rfl,by funext n; simp [Hp.or],trivial,H⟩
  | cons A l ih=>exact star_assoc2 (star_mono H (fun _ h=>h) fun _ h=>ih h)
theorem star_stars (l r:List HP) {h:Hp} (H:star (stars l) (stars r) h):stars (l++r) h:=by
  induction l generalizing h with
  | nil =>
    obtain ⟨a,c,d,rfl,_,hc⟩:=H
    have:=star_comm _ _ (⟨a,c,d,rfl,trivial,hc⟩:star top (stars r) _)
    clear hc
    revert this
    generalize Hp.or a c=h
    clear d
    induction r generalizing h with
    | nil=>intro _; trivial
    | cons A r ih =>
      intro H
      exact star_mono (star_assoc1 H) (fun _ h=>h) fun x hx=>ih x hx
  | cons A l ih=>exact star_mono (star_assoc1 H) (fun _ h=>h) fun _ h=>ih h
theorem stars_perm {l r:List HP} (p:l.Perm r):∀ {h:Hp},stars l h→stars r h:=by
  induction p with
  | nil=>exact fun h=>h
  | cons A _ ih=>exact fun H=>star_mono H (fun _ h=>h) fun _ h=>ih h
  | swap A C l=>exact fun H=>star_swap H
  | trans _ _ ih1 ih2=>exact fun H=>ih2 (ih1 H)
theorem stars_drop {A:HP} {r:List HP} {h:Hp} (H:stars (A::r) h):stars r h:=by
  have:star top (stars r) h:=star_mono H (fun _ _=>trivial) fun _ h=>h
  exact star_stars [] r (star_mono this (fun _ h=>h) fun _ h=>h)
def pick:Nat→List HP→List HP
  | 0,l=>l
  | _+1,[]=>[]
  | k+1,A::l=>match pick k l with
    | []=>[A]
    | C::r=>C::A::r
theorem pick_perm:∀ (k:Nat) (l:List HP),l.Perm (pick k l)
  | 0,_=>.refl _
  | _+1,[]=>.refl _
  | k+1,A::l=>by
    have ih:=pick_perm k l
    unfold pick
    cases e:pick k l with
    | nil=>rw [e] at ih; rw [List.Perm.eq_nil ih]
    | cons C r=>rw [e] at ih; exact (ih.cons A).trans (.swap C A r)
section
variable {B:Nat} {w0 w w':World} {l r:List HP}
theorem St.perm (H:St B w0 l w) (p:l.Perm r):St B w0 r w:=⟨H.le,H.below,stars_perm p H.own⟩
theorem St.pick (H:St B w0 l w) (k:Nat):St B w0 (pick k l) w:=H.perm (pick_perm k l)
theorem St.drop {A:HP} (H:St B w0 (A::r) w):St B w0 r w:=⟨H.le,H.below,stars_drop H.own⟩
theorem St.imp {A C:HP} (H:St B w0 (A::r) w) (h:∀ x,A x→C x):St B w0 (C::r) w :=
  ⟨H.le,H.below,star_mono H.own h fun _ h=>h⟩
theorem St.split {A C:HP} (H:St B w0 (star A C::r) w):St B w0 (A::C::r) w:=⟨H.le,H.below,star_assoc1 H.own⟩
theorem St.join {A C:HP} (H:St B w0 (A::C::r) w):St B w0 (star A C::r) w:=⟨H.le,H.below,star_assoc2 H.own⟩
theorem St.splits (H:St B w0 (stars l::r) w):St B w0 (l++r) w:=⟨H.le,H.below,star_stars l r H.own⟩
theorem St.joins (H:St B w0 (l++r) w):St B w0 (stars l::r) w:=⟨H.le,H.below,stars_append l r H.own⟩
theorem St.ex {α : Type} {A : α → HP} (H:St B w0 ((fun h=>∃ x,A x h)::r) w):∃ x,St B w0 (A x::r) w:=by
  obtain ⟨a,c,d,e,⟨x,hx⟩,hc⟩:=H.own
  exact ⟨x,H.le,H.below,a,c,d,e,hx,hc⟩
theorem St.pure {p:Prop} {A:HP} (H:St B w0 ((fun h=>p∧A h)::r) w):p∧St B w0 (A::r) w:=by
  obtain ⟨a,c,d,e,⟨hp,hx⟩,hc⟩:=H.own
  exact ⟨hp,H.le,H.below,a,c,d,e,hx,hc⟩
theorem St.nil (w:World):St w.heap.size w [] w:=⟨Nat.le_refl _,Below.refl _ _,trivial⟩
theorem St.heap {b:Nat} {o:Obj} (H:St B w0 (pto b o::r) w):B≤b∧w.heap[b]? = some o:=by
  obtain ⟨a,c,d,e,ha,_⟩:=H.own
  have h:=congrFun e b
  have:(pto b o) a:=ha
  unfold pto at this
  subst this
  simp only [Hp.or,hpOf,if_true,Option.some_or] at h
  split at h
  · cases h
  · exact ⟨by omega,h⟩
theorem St.ne {b b':Nat} {o o':Obj} (H:St B w0 (pto b o::pto b' o'::r) w):b≠b':=by
  intro e
  subst e
  obtain ⟨a,c,d,_,ha,a',c',d',rfl,ha',_⟩:=H.own
  unfold pto at ha ha'
  subst ha ha'
  rcases d b with h | h
  · simp at h
  · simp [Hp.or] at h
theorem St.over {b:Nat} {o o':Obj} (H:St B w0 (pto b o::r) w) (hs:w'.heap.size=w.heap.size) (hos:w'.os=w.os) (ht:w'.tape=w.tape) (hou:w'.output=w.output)
    (hh:∀ n,w'.heap[n]? = if n=b then some o' else w.heap[n]?):St B w0 (pto b o'::r) w':=by
  have hb:=H.heap.1
  refine ⟨H.le,⟨hos.trans H.below.os,ht.trans H.below.tape,hou.trans H.below.output,hs ▸ H.below.size,fun k hk=>by rw [hh,if_neg (by omega)]; exact H.below.block k hk⟩,?_⟩
  obtain ⟨a,c,d,e,ha,hc⟩:=H.own
  unfold pto at ha
  subst ha
  refine ⟨fun n=>if n=b then some o' else none,c,?_,?_,rfl,hc⟩
  · intro n
    rcases d n with h | h
    · left; by_cases hn:n=b
      · simp [hn] at h
      · simp [hn]
    · exact .inr h
  · funext n
    have:=congrFun e n
    simp only [Hp.or,hpOf] at this ⊢
    by_cases hn:n=b
    · subst hn; simp [hh]; omega
    · simp only [hn,if_false,Option.none_or] at this ⊢
      rw [hh,if_neg hn]; exact this
theorem St.alloc (H:St B w0 l w) (o:Obj):St B w0 (pto w.heap.size o::l) (w.alloc o):=by
  have hs:=H.below.size
  have hle:=H.le
  refine ⟨H.le,H.below.alloc (by omega) o,?_⟩
  refine ⟨fun n=>if n=w.heap.size then some o else none,hpOf B w,?_,?_,rfl,H.own⟩
  · intro n
    by_cases hn:n=w.heap.size
    · right; subst hn; unfold hpOf; split <;> simp
    · left; simp [hn]
  · funext n
    simp only [Hp.or,hpOf,World.alloc,Array.getElem?_push]
    by_cases hn:n=w.heap.size
    · subst hn; simp; omega
    · simp [hn]
theorem St.drew (H:St B w0 l w):St B w0 l w.drew:=⟨H.le,H.below.drew,H.own⟩
theorem St.setCell {b off:Nat} {T:TypeId} {cs:List Value} (H:St B w0 (pts b T cs::r) w) (v:Value):St B w0 (pts b T (cs.set off v)::r) (w.setCell ⟨b,off,none⟩ v):=by
  have hb:=H.heap.2
  refine H.over (by simp [World.setCell]) rfl rfl rfl fun n => ?_
  simp only [World.setCell,Array.getElem?_modify]
  by_cases hn:n=b
  · subst hn
    simp [hb,ob]
  · rw [if_neg (fun e=>hn e.symm),if_neg hn]
theorem St.setObj {b:Nat} {o:Obj} (H:St B w0 (pto b o::r) w) (o':Obj):St B w0 (pto b o'::r) { w with heap:=w.heap.setIfInBounds b o' } := by
  have hb:=(Array.getElem?_eq_some_iff.1 H.heap.2).1
  refine H.over (by simp) rfl rfl rfl fun n => ?_
  simp only [Array.getElem?_setIfInBounds]
  by_cases hn:n=b
  · subst hn; simp [hb]
  · rw [if_neg (fun e=>hn e.symm),if_neg hn]
theorem St.grow (H:St B w0 l w) (h:Below w.heap.size w w'):St B w0 l w':=by
  have hs:=H.below.size
  have hle:=H.le
  refine ⟨H.le,H.below.trans (h.mono (by omega)),?_⟩
  have : star (stars l) top (hpOf B w') := by
    refine ⟨hpOf B w,fun n=>if n<w.heap.size then none else hpOf B w' n,?_,?_,H.own,trivial⟩
    · intro n
      by_cases hn:n<w.heap.size
      · right; simp [hn]
      · left; unfold hpOf; split
        · rfl
        · exact Array.getElem?_eq_none (by omega)
    · funext n
      simp only [Hp.or,hpOf]
      by_cases hB:n<B
      · simp [hB]
      · simp only [hB,if_false]
        by_cases hn:n<w.heap.size
        · rw [h.block n hn]; simp [hn]
        · simp [hn,Array.getElem?_eq_none (Nat.le_of_not_lt hn)]
  have h2:=star_stars l [] this
  rwa [List.append_nil] at h2
theorem St.over_base (H:St B w0 l w) (h:St w.heap.size w r w'):St B w0 (r++l) w':=by
  have hs:=H.below.size
  have hle:=H.le
  refine ⟨H.le,H.below.trans (h.below.mono (by omega)),?_⟩
  refine star_stars r l ⟨hpOf w.heap.size w',hpOf B w,?_,?_,h.own,H.own⟩
  · intro n
    by_cases hn:n<w.heap.size
    · left; simp [hpOf,hn]
    · right; unfold hpOf; split
      · rfl
      · exact Array.getElem?_eq_none (by omega)
  · funext n
    simp only [Hp.or,hpOf]
    by_cases hn:n<w.heap.size
    · rw [if_pos hn]; simp only [Option.none_or]; rw [h.below.block n hn]
    · rw [if_neg hn,if_neg (by omega)]
      cases w'.heap[n]? <;> simp <;> omega
theorem cells_at {b:Nat} {T:TypeId} {cs:List Value} (h:w.heap[b]? = some (ob T cs)):(∀ o,w.cell? ⟨b,o,none⟩=cs[o]?)∧(∀ o,w.frozen? ⟨b,o,none⟩=false):=by
  refine ⟨fun o=>by simp [World.cell?,h,ob],fun o => ?_⟩
  simp only [World.frozen?,h,ob]
  simp
theorem St.cells {b:Nat} {T:TypeId} {cs:List Value} (H:St B w0 (pts b T cs::r) w):(∀ o,w.cell? ⟨b,o,none⟩=cs[o]?)∧(∀ o,w.frozen? ⟨b,o,none⟩=false):=cells_at H.heap.2
theorem St.old (H:St B w0 l w):(∀ b o,b<B→w.cell? ⟨b,o,none⟩=w0.cell? ⟨b,o,none⟩)∧(∀ b o,b<B→w.frozen? ⟨b,o,none⟩=w0.frozen? ⟨b,o,none⟩) :=
  ⟨fun b o h=>H.below.cell (p:=⟨b,o,none⟩) h,fun b o h=>H.below.frozen (p:=⟨b,o,none⟩) h⟩
end
end Go.Own
end
section
namespace Go.Own
open Go.RowKit
def Osl (v:Value) (E:TypeId) (sz n:Nat) (xs:List Value):HP:=fun h=>xs.length=n * sz ∧
  ((v=.slice none 0 0∧n=0)∨∃ g cap cur,v=.slice (some ⟨g,0,none⟩) n cap∧n≤cap∧cap≤maxLen∧cur.length=cap * sz∧cur.take (n * sz)=xs∧pts g E cur h)
structure SlT (P:Program) (t e:TypeId) (sz bytes:Nat) (z:Value):Prop where
  und:P.underlying t=some (.slice e)
  inf:∃ i,P.info? e=some i∧i.zero=some z∧i.size=sz∧i.bytes=bytes
  zsz:z.cells.size=sz
  pos:0<sz
section
variable {B:Nat} {w0 w w':World} {l r:List HP} {v:Value} {E:TypeId} {sz n:Nat} {xs:List Value}
theorem own_nil (E:TypeId) (sz:Nat) (h:Hp):Osl (.slice none 0 0) E sz 0 [] h:=⟨by simp,.inl ⟨rfl,rfl⟩⟩
theorem St.ownNil (H:St B w0 l w) (E:TypeId) (sz:Nat):St B w0 (Osl (.slice none 0 0) E sz 0 []::l) w:=by
  refine ⟨H.le,H.below,fun _=>none,hpOf B w,fun _=>.inl rfl,?_,own_nil E sz _,H.own⟩
  funext n; simp [Hp.or]
theorem St.ownFull {g m:Nat} {news:List Value} (H:St B w0 (pts g E news::l) w) (hl:news.length=m * sz) (hm:m≤maxLen):St B w0 (Osl (.slice (some ⟨g,0,none⟩) m m) E sz m news::l) w :=
  H.imp fun h hh=>⟨hl,.inr ⟨g,m,news,rfl,Nat.le_refl _,hm,hl,by rw [← hl,List.take_length],hh⟩⟩
theorem St.ownMade {g cap:Nat} {cur:List Value} (H:St B w0 (pts g E cur::l) w) (n:Nat) (hn:n≤cap) (hl:cur.length=cap * sz) (hm:cap≤maxLen):St B w0 (Osl (.slice (some ⟨g,0,none⟩) n cap) E sz n (cur.take (n * sz))::l) w :=
  H.imp fun h hh=>⟨by rw [List.length_take,hl]; exact Nat.min_eq_left (Nat.mul_le_mul_right _ hn),.inr ⟨g,cap,cur,rfl,hn,hm,hl,rfl,hh⟩⟩
theorem St.ownCases (H:St B w0 (Osl v E sz n xs::r) w):xs.length=n * sz ∧
    ((v=.slice none 0 0∧n=0∧xs=[]∧St B w0 r w)∨∃ g cap cur,v=.slice (some ⟨g,0,none⟩) n cap∧n≤cap∧cap≤maxLen∧cur.length=cap * sz∧cur.take (n * sz)=xs∧St B w0 (pts g E cur::r) w):=by
  obtain ⟨a,c,d,e,⟨hl,h⟩,hc⟩:=H.own
  refine ⟨hl,?_⟩
  rcases h with ⟨h1,h2⟩ | ⟨g,cap,cur,h1,h2,h3,h4,h5,h6⟩
  · exact .inl ⟨h1,h2,List.eq_nil_of_length_eq_zero (by simpa [h2] using hl),H.drop⟩
  · exact .inr ⟨g,cap,cur,h1,h2,h3,h4,h5,H.le,H.below,a,c,d,e,h6,hc⟩
theorem St.ownVal (H:St B w0 (Osl v E sz n xs::r) w):∃ a c,v=.slice a n c:=by
  obtain ⟨_,⟨h,h',_⟩ | ⟨g,cap,cur,h,_⟩⟩:=H.ownCases
  · exact ⟨none,0,by rw [h,h']⟩
  · exact ⟨_,_,h⟩
theorem St.ownCell (H:St B w0 (Osl v E sz n xs::r) w):(v=.slice none 0 0∧n=0∧xs=[])∨∃ g cap,v=.slice (some ⟨g,0,none⟩) n cap∧B≤g∧(∀ j u,xs[j]? = some u→w.cell? ⟨g,j,none⟩=some u)∧(∀ o,w.frozen? ⟨g,o,none⟩=false):=by
  obtain ⟨_,⟨h,h',h'',_⟩ | ⟨g,cap,cur,h,_,_,_,h2,H'⟩⟩:=H.ownCases
  · exact .inl ⟨h,h',h''⟩
  · obtain ⟨hc,hf⟩:=H'.cells
    refine .inr ⟨g,cap,h,H'.heap.1,fun j u hu => ?_,hf⟩
    rw [hc]
    rw [← h2,List.getElem?_take] at hu
    split at hu
    · exact hu
    · cases hu
theorem zeroCells_len (z:Array Value) (k:Nat):(Builtin.zeroCells z k).toList.length=k * z.size:=by
  rw [Array.length_toList]; exact size_zeroCells z k
theorem run_append_st {P:Program} {t e ty:TypeId} {bytes:Nat} {z:Value} (T:SlT P t e sz bytes z) (H:St B w0 (Osl v e sz n xs::r) w)
    (a:Addr) (m c:Nat) (news:List Value) (hl:news.length=m * sz) (hnews:∀ j u,news[j]? = some u→w.cell? (a.add j)=some u) (h1:∀ u ∈ news,u.oneCell'=true)
    (h63:n+m≤maxLen) (hbytes:(n+m) * bytes≤140737488355328) :
    ∃ v' w',(Builtin.append_ #[t,t] ty #[v,.slice (some a) m c]).run P w=.ok v' w'∧St B w0 (Osl v' e sz (n+m) (xs++news)::r) w'∧∀ g o,B≤g→w.heap[g]? = some o→v.ownBlock≠some g→w'.heap[g]? = some o:=by
  obtain ⟨ht,⟨i,hi,hz,hsize,hby⟩,hzs,hpos⟩:=T
  subst hsize hby
  have hsmall:n+m≤9223372036854775807:=by simp only [maxLen] at h63; omega
  obtain ⟨hxl,hcase⟩:=H.ownCases
  have hgrow:∀ (old:Nat) (H':St B w0 r w),old<n+m→St B w0 (Osl (.slice (some ⟨w.heap.size,0,none⟩) (n+m) (grownCap w (n+m) old e)) e i.size (n+m) (xs++news)::r)
      (w.drew.alloc (.cells (xs.toArray++news.toArray++Builtin.zeroCells z.cells (grownCap w (n+m) old e - (n+m))) e)):=by
    intro old H' _
    have hge:=grownCap_ge w (n+m) old e
    have hcm:=grownCap_le_maxLen w (n+m) old e h63
    have HH:=H'.drew.alloc (ob e (xs++news++(Builtin.zeroCells z.cells (grownCap w (n+m) old e - (n+m))).toList))
    have hlen:(xs++news).length=(n+m) * i.size:=by rw [List.length_append,hxl,hl,Nat.add_mul]
    have:=St.ownMade (sz:=i.size) (cap:=grownCap w (n+m) old e) HH (n+m) hge (by rw [List.length_append,hlen,zeroCells_len,hzs,← Nat.add_mul]; congr 1; omega) hcm
    rw [← hlen,List.take_left] at this
    have e1:ob e (xs++news++(Builtin.zeroCells z.cells (grownCap w (n+m) old e - (n+m))).toList)=.cells (xs.toArray++news.toArray++Builtin.zeroCells z.cells (grownCap w (n+m) old e - (n+m))) e:=by
      unfold ob
      congr 1
      apply Array.ext'
      simp
    rw [e1] at this
    exact this
  have hkeep:∀ (o':Obj) g o,w.heap[g]? = some o→(w.drew.alloc o').heap[g]? = some o:=fun o' g o h=>by
    have hlt:=(Array.getElem?_eq_some_iff.1 h).1
    show (w.heap.push o')[g]? = _
    rw [Array.getElem?_push,if_neg (by omega)]; exact h
  rcases hcase with ⟨rfl,rfl,rfl,H'⟩ | ⟨g,cap,cur,rfl,hnc,hcm,hcl,htake,H'⟩
  · by_cases hm:m=0
    · subst hm
      have hn:news=[]:=List.eq_nil_of_length_eq_zero (by simpa using hl)
      subst hn
      refine ⟨.slice none 0 0,w,?_,by simpa using H,fun _ _ _ h _=>h⟩
      simp [Builtin.append_,run_underlying ht,sizeOf,typeInfo,hi,Builtin.lenOf,Builtin.firstCells,loadCells,loadCellsFrom]
    · have hr:=run_append_nil (P:=P) w t ty e i z ht hi hz a m c news hl hnews (by omega) (by omega) (by have hb:=hbytes; simp only [Nat.zero_add] at hb; omega)
      have hgr:=hgrow 0 H' (by omega)
      simp only [Nat.zero_add,List.nil_append,Array.empty_append] at hgr ⊢
      exact ⟨_,_,hr,hgr,fun g o _ h _=>hkeep _ g o h⟩
  · by_cases hroom:n+m≤cap
    · have hb:=H'.heap.2
      have hfit:n * i.size+news.length≤cur.toArray.size:=by rw [hl,List.size_toArray,hcl,← Nat.add_mul]; exact Nat.mul_le_mul_right _ hroom
      have hr:=run_append_room (P:=P) (ty:=ty) w t e i ht hi g n cap cur.toArray hb a m c news hl hnews h1 hroom hfit
      refine ⟨_,_,hr,?_,fun g' o _ h hne => ?_⟩
      · have HH:St B w0 (pts g e (xs++news++cur.drop (n * i.size+news.length))::r) (w.setRow g (cur.toArray.toList.take (n * i.size)++news++cur.toArray.toList.drop (n * i.size+news.length)).toArray):=by
          refine H'.over (by simp [World.setRow]) rfl rfl rfl fun k => ?_
          simp only [World.setRow,Array.getElem?_modify]
          by_cases hk:k=g
          · subst hk; simp [hb,ob,htake]
          · rw [if_neg (fun e=>hk e.symm),if_neg hk]
        have hlen:(xs++news).length=(n+m) * i.size:=by rw [List.length_append,hxl,hl,Nat.add_mul]
        have:=St.ownMade (sz:=i.size) (cap:=cap) HH (n+m) hroom (by rw [List.length_append,hlen,List.length_drop,hcl,hl]; rw [List.size_toArray,hcl,hl] at hfit; rw [Nat.add_mul]; omega) hcm
        rw [← hlen,List.take_left] at this
        exact this
      · have hg':g'≠g:=fun e=>hne (by simp [Value.ownBlock,e])
        simp only [World.setRow,Array.getElem?_modify]
        rw [if_neg (fun e=>hg' e.symm)]; exact h
    · have holds:∀ j u,xs[j]? = some u→w.cell? ((⟨g,0,none⟩:Addr).add j)=some u:=by
        intro j u hu
        have hadd:(⟨g,0,none⟩:Addr).add j=⟨g,j,none⟩:=by unfold Addr.add; split <;> simp_all
        rw [hadd,H'.cells.1]
        rw [← htake,List.getElem?_take] at hu
        split at hu
        · exact hu
        · cases hu
      have hr:=run_append_grow (P:=P) (ty:=ty) w t e i z ht hi hz ⟨g,0,none⟩ n cap xs hxl holds a m c news hl hnews (by omega) (by omega) (growslice_fits (by omega) hbytes)
      exact ⟨_,_,hr,hgrow cap H'.drop (by omega),fun g o _ h _=>hkeep _ g o h⟩
theorem wpList_append_st {P:Program} {ops:Array Oper} {Q:Exit→Act→World→Prop} {A:Act} {rest:List Oper} {o:Oper} {t e:TypeId} {bytes:Nat} {z:Value} (hgd:o.guard=none) (s x:Operand)
    (ho:o.op=.call { callee:=.builtin .append,args:=#[s,x],argTypes:=#[t,t] }) (T:SlT P t e sz bytes z) (H:St B w0 (Osl v e sz n xs::r) w) (hs:A.eval s=v)
    (a:Addr) (m c:Nat) (news:List Value) (hx:A.eval x=.slice (some a) m c) (hl:news.length=m * sz) (hnews:∀ j u,news[j]? = some u→w.cell? (a.add j)=some u) (h1:∀ u ∈ news,u.oneCell'=true)
    (h63:n+m≤maxLen) (hbytes:(n+m) * bytes≤140737488355328)
    (h:∀ a' c' w',St B w0 (Osl (.slice a' (n+m) c') e sz (n+m) (xs++news)::r) w'→(∀ g o,B≤g→w.heap[g]? = some o→v.ownBlock≠some g→w'.heap[g]? = some o)→wpList P ops Q rest (A.put o.dst (.slice a' (n+m) c')) w'):wpList P ops Q (o::rest) A w:=by
  refine wpList_plain hgd fun K hK => ?_
  obtain ⟨v',w',hr,h2,h3⟩:=run_append_st (ty:=o.type) T H a m c news hl hnews h1 h63 hbytes
  unfold Oper.wp execOp
  simp only [ho,resolve,invoke,builtin,Sem.run_bind,Sem.run_pure,Result.andThen_ok,List.map_toArray,List.map_cons,List.map_nil,hs,hx,hr]
  obtain ⟨a',c',rfl⟩:=h2.ownVal
  exact hK _ _ (h a' c' w' h2 h3)
theorem wpList_append1_st {P:Program} {ops:Array Oper} {Q:Exit→Act→World→Prop} {A:Act} {rest:List Oper} {o:Oper} {t e:TypeId} {bytes:Nat} {z:Value} (hgd:o.guard=none) (s x:Operand)
    (ho:o.op=.call { callee:=.builtin .append,args:=#[s,x],argTypes:=#[t,t] }) (T:SlT P t e sz bytes z) {g g':Nat} {news:List Value} (H:St B w0 (pts g e news::Osl v e sz n xs::r) w) (hs:A.eval s=v)
    (m:Nat) (hx:A.eval x=.slice (some ⟨g',0,none⟩) m m) (hg:g'=g) (hl:news.length=m * sz) (h1:∀ u ∈ news,u.oneCell'=true)
    (h63:n+m≤maxLen) (hbytes:(n+m) * bytes≤140737488355328)
    (h:∀ a' c' w',St B w0 (Osl (.slice a' (n+m) c') e sz (n+m) (xs++news)::r) w'→wpList P ops Q rest (A.put o.dst (.slice a' (n+m) c')) w'):wpList P ops Q (o::rest) A w :=
  wpList_append_st hgd s x ho T H.drop hs ⟨g',0,none⟩ m m news hx hl (fun j u hu=>by
    subst hg
    have hadd:(⟨g',0,none⟩:Addr).add j=⟨g',j,none⟩:=by unfold Addr.add; split <;> simp_all
    rw [hadd,H.cells.1]; exact hu) h1 h63 hbytes fun a' c' w' h2 _=>h a' c' w' h2
end
end Go.Own
end
section
namespace Go.Proofs.YtbcngfgemjdllaaGreatDoor
open Go.RowKit Go.Own
theorem c43 (b:Nat) (v:Value) (w:World) (hc:w.cell? ⟨b,1,none⟩=some v):Calls Tryz.prog 43 #[.pointer (some ⟨b,0,none⟩)] w fun e w'=>e=.returned v∧w=w':=by
  go_enter Tryz.func43,Tryz.ntmps43
  go_wp2
  go_ret
  exact ⟨rfl,rfl⟩
theorem c44 (b:Nat) (v:Value) (w:World) (hc:w.cell? ⟨b,7,none⟩=some v):Calls Tryz.prog 44 #[.pointer (some ⟨b,0,none⟩)] w fun e w'=>e=.returned v∧w=w':=by
  go_enter Tryz.func44,Tryz.ntmps44
  go_wp2
  go_ret
  exact ⟨rfl,rfl⟩
theorem c45 (b:Nat) (v:Value) (w:World) (hc:w.cell? ⟨b,8,none⟩=some v):Calls Tryz.prog 45 #[.pointer (some ⟨b,0,none⟩)] w fun e w'=>e=.returned v∧w=w':=by
  go_enter Tryz.func45,Tryz.ntmps45
  go_wp2
  go_ret
  exact ⟨rfl,rfl⟩
theorem c60 (b:Nat) (v:Value) (w:World) (hc:w.cell? ⟨b,5,none⟩=some v):Calls Tryz.prog 60 #[.pointer (some ⟨b,0,none⟩)] w fun e w'=>e=.returned v∧w=w':=by
  go_enter Tryz.func60,Tryz.ntmps60
  go_wp2
  go_ret
  exact ⟨rfl,rfl⟩
theorem c104 (b:Nat) (v:Value) (w:World) (hc:w.cell? ⟨b,1,none⟩=some v):Calls Tryz.prog 104 #[.pointer (some ⟨b,0,none⟩)] w fun e w'=>e=.returned v∧w=w':=by
  go_enter Tryz.func104,Tryz.ntmps104
  go_wp2
  go_ret
  exact ⟨rfl,rfl⟩
theorem c110 (b:Nat) (v:Value) (w:World) (hc:w.cell? ⟨b,2,none⟩=some v):Calls Tryz.prog 110 #[.pointer (some ⟨b,0,none⟩)] w fun e w'=>e=.returned v∧w=w':=by
  go_enter Tryz.func110,Tryz.ntmps110
  go_wp2
  go_ret
  exact ⟨rfl,rfl⟩
theorem c129 (b:Nat) (v:Value) (w:World) (hc:w.cell? ⟨b,6,none⟩=some v):Calls Tryz.prog 129 #[.pointer (some ⟨b,0,none⟩)] w fun e w'=>e=.returned v∧w=w':=by
  go_enter Tryz.func129,Tryz.ntmps129
  go_wp2
  go_ret
  exact ⟨rfl,rfl⟩
theorem c126 (b:Nat) (v:Value) (w:World) (hc:w.cell? ⟨b,0,none⟩=some v):Calls Tryz.prog 126 #[.pointer (some ⟨b,0,none⟩)] w fun e w'=>e=.returned v∧w=w':=by
  go_enter Tryz.func126,Tryz.ntmps126
  go_wp2
  go_ret
  exact ⟨rfl,rfl⟩
theorem c150 (b:Nat) (v:Value) (w:World) (hc:w.cell? ⟨b,2,none⟩=some v):Calls Tryz.prog 150 #[.pointer (some ⟨b,0,none⟩)] w fun e w'=>e=.returned v∧w=w':=by
  go_enter Tryz.func150,Tryz.ntmps150
  go_wp2
  go_ret
  exact ⟨rfl,rfl⟩
theorem c192 (b:Nat) (v:Value) (w:World) (hc:w.cell? ⟨b,0,none⟩=some v):Calls Tryz.prog 192 #[.pointer (some ⟨b,0,none⟩)] w fun e w'=>e=.returned v∧w=w':=by
  go_enter Tryz.func192,Tryz.ntmps192
  go_wp2
  go_ret
  exact ⟨rfl,rfl⟩
theorem c196 (b:Nat) (v:Value) (w:World) (hc:w.cell? ⟨b,4,none⟩=some v):Calls Tryz.prog 196 #[.pointer (some ⟨b,0,none⟩)] w fun e w'=>e=.returned v∧w=w':=by
  go_enter Tryz.func196,Tryz.ntmps196
  go_wp2
  go_ret
  exact ⟨rfl,rfl⟩
theorem c197 (b:Nat) (v:Value) (w:World) (hc:w.cell? ⟨b,5,none⟩=some v):Calls Tryz.prog 197 #[.pointer (some ⟨b,0,none⟩)] w fun e w'=>e=.returned v∧w=w':=by
  go_enter Tryz.func197,Tryz.ntmps197
  go_wp2
  go_ret
  exact ⟨rfl,rfl⟩
theorem c200 (b:Nat) (v:Value) (w:World) (hc:w.cell? ⟨b,3,none⟩=some v):Calls Tryz.prog 200 #[.pointer (some ⟨b,0,none⟩)] w fun e w'=>e=.returned v∧w=w':=by
  go_enter Tryz.func200,Tryz.ntmps200
  go_wp2
  go_ret
  exact ⟨rfl,rfl⟩
theorem c203 (b:Nat) (v:Value) (w:World) (hc:w.cell? ⟨b,0,none⟩=some v):Calls Tryz.prog 203 #[.pointer (some ⟨b,0,none⟩)] w fun e w'=>e=.returned v∧w=w':=by
  go_enter Tryz.func203,Tryz.ntmps203
  go_wp2
  go_ret
  exact ⟨rfl,rfl⟩
theorem c284 (b:Nat) (v:Value) (w:World) (hc:w.cell? ⟨b,2,none⟩=some v):Calls Tryz.prog 284 #[.pointer (some ⟨b,0,none⟩)] w fun e w'=>e=.returned v∧w=w':=by
  go_enter Tryz.func284,Tryz.ntmps284
  go_wp2
  go_ret
  exact ⟨rfl,rfl⟩
theorem c286 (b:Nat) (v:Value) (w:World) (hc:w.cell? ⟨b,3,none⟩=some v):Calls Tryz.prog 286 #[.pointer (some ⟨b,0,none⟩)] w fun e w'=>e=.returned v∧w=w':=by
  go_enter Tryz.func286,Tryz.ntmps286
  go_wp2
  go_ret
  exact ⟨rfl,rfl⟩
theorem c287 (b:Nat) (v:Value) (w:World) (hc:w.cell? ⟨b,4,none⟩=some v):Calls Tryz.prog 287 #[.pointer (some ⟨b,0,none⟩)] w fun e w'=>e=.returned v∧w=w':=by
  go_enter Tryz.func287,Tryz.ntmps287
  go_wp2
  go_ret
  exact ⟨rfl,rfl⟩
theorem c296 (b:Nat) (v:Value) (w:World) (hc:w.cell? ⟨b,8,none⟩=some v):Calls Tryz.prog 296 #[.pointer (some ⟨b,0,none⟩)] w fun e w'=>e=.returned v∧w=w':=by
  go_enter Tryz.func296,Tryz.ntmps296
  go_wp2
  go_ret
  exact ⟨rfl,rfl⟩
theorem c320 (b:Nat) (v:Value) (w:World) (hc:w.cell? ⟨b,1,none⟩=some v):Calls Tryz.prog 320 #[.pointer (some ⟨b,0,none⟩)] w fun e w'=>e=.returned v∧w=w':=by
  go_enter Tryz.func320,Tryz.ntmps320
  go_wp2
  go_ret
  exact ⟨rfl,rfl⟩
theorem c322 (b:Nat) (v:Value) (w:World) (hc:w.cell? ⟨b,4,none⟩=some v):Calls Tryz.prog 322 #[.pointer (some ⟨b,0,none⟩)] w fun e w'=>e=.returned v∧w=w':=by
  go_enter Tryz.func322,Tryz.ntmps322
  go_wp2
  go_ret
  exact ⟨rfl,rfl⟩
theorem c326 (b:Nat) (v:Value) (w:World) (hc:w.cell? ⟨b,9,none⟩=some v):Calls Tryz.prog 326 #[.pointer (some ⟨b,0,none⟩)] w fun e w'=>e=.returned v∧w=w':=by
  go_enter Tryz.func326,Tryz.ntmps326
  go_wp2
  go_ret
  exact ⟨rfl,rfl⟩
theorem c92 (b:Nat) (v:Value) (w:World) (hc:w.cell? ⟨b,2,none⟩=some v):Calls Tryz.prog 92 #[.pointer (some ⟨b,0,none⟩)] w fun e w'=>e=.returned v∧w=w':=by
  go_enter Tryz.func92,Tryz.ntmps92
  go_wp2
  go_ret
  exact ⟨rfl,rfl⟩
theorem c131 (b:Nat) (v:Value) (w:World) (hc:w.cell? ⟨b,1,none⟩=some v):Calls Tryz.prog 131 #[.pointer (some ⟨b,0,none⟩)] w fun e w'=>e=.returned v∧w=w':=by
  go_enter Tryz.func131,Tryz.ntmps131
  go_wp2
  go_ret
  exact ⟨rfl,rfl⟩
theorem c147 (b:Nat) (v:Value) (w:World) (hc:w.cell? ⟨b,1,none⟩=some v):Calls Tryz.prog 147 #[.pointer (some ⟨b,0,none⟩)] w fun e w'=>e=.returned v∧w=w':=by
  go_enter Tryz.func147,Tryz.ntmps147
  go_wp2
  go_ret
  exact ⟨rfl,rfl⟩
end Go.Proofs.YtbcngfgemjdllaaGreatDoor
end
