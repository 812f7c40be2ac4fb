/- Part 35: Z12, Z14. -/
import Derived.Test.YtbcngfgemjdllaaGreatDoorB34
set_option linter.unusedVariables false
set_option linter.unusedSimpArgs false
section
namespace Go.Proofs.YtbcngfgemjdllaaGreatDoor
open Go.RowKit Go.Own
structure TP where
  d:Lx.Ed
  tk:Nat
  tb:Nat
  cs:List Value
def tpP (x:TP):HP:=pts x.tb (trT x.tk) x.cs
def tpV (x:TP):Value:=.iface (tyT x.tk) (.pointer (some ⟨x.tb,0,none⟩))
def outT (ts:List TP) (i:Nat):List TP:=ts.filter fun x=>x.d.src == i
def trS (eo:Bool) (ta:Option Addr) (tc:Nat) (tl:List Value) (x:LS):LS := { x with q := { x.q with eo:=eo,ta:=ta,tc:=tc,tl:=tl } }
structure EdU (L L':List LS) (E:List Lx.Ed) (ts:List TP):Prop where
  len:L'.length=L.length
  ds:ts.map (·.d)=E
  ok:∀ x ∈ ts,∃ t,L[x.d.to]? = some t∧TrM x.d (ifL t) x.tk x.cs
  at_:∀ (i:Nat) (x:LS),L[i]? = some x→∃ ta tc,L'[i]? = some (trS (Lx.epsOnly (Lx.outL E i)) ta tc ((outT ts i).map tpV) x)
theorem EdU.map {L L':List LS} {E:List Lx.Ed} {ts:List TP} (h:EdU L L' E ts):L'.map ifL=L.map ifL:=by
  apply List.ext_getElem?
  intro i
  rw [List.getElem?_map,List.getElem?_map]
  cases hx:L[i]? with
  | none =>
    have:L'[i]? = none:=by rw [List.getElem?_eq_none_iff] at hx ⊢; rw [h.len]; exact hx
    rw [this]
  | some x =>
    obtain ⟨ta,tc,h1⟩:=h.at_ i x hx
    rw [h1]; rfl
theorem EdU.zw {Z:ZC} {pos:Nat} {A:AtC} {sa:Option Addr} {sc:Nat} {L L':List LS} {E:List Lx.Ed} {ts:List TP} (h:EdU L L' E ts):zwL Z pos A sa sc L' =
    [pts Z.bd 251 (dzC Z.bo Z.da Z.dn Z.dc pos),pts Z.at_ 114 (A.cells (.slice sa L.length sc)),Osl (.slice sa L.length sc) 169 1 L.length (L.map ifL),stars (L'.map (sqL Z.at_))]:=by
  unfold zwL
  rw [h.len,h.map]
theorem EdU.start {L:List LS} (h:∀ x ∈ L,x.q.eo=false∧x.q.tl=[]):EdU L L [] []:=⟨rfl,rfl,fun x hx=>by simp at hx,fun i x hx=>by
  obtain ⟨h1,h2⟩:=h x (List.mem_of_getElem? hx)
  refine ⟨x.q.ta,x.q.tc,?_⟩
  rw [hx]
  obtain ⟨b,i',ar,q⟩:=x
  obtain ⟨k,ru,eo,ta,tc,tl,dec,en,lb,st⟩:=q
  simp only at h1 h2
  subst h1 h2
  rfl⟩
theorem epsOnly_push (l:List Lx.Tr) (t:Lx.Tr):Lx.epsOnly (l++[t])=eoA l.length (Lx.epsOnly l) t.isEps:=by
  unfold eoA Lx.epsOnly
  cases l with
  | nil=>simp
  | cons a l=>simp [Bool.and_assoc]
theorem TrM.eps {d:Lx.Ed} {v:Value} {tk:Nat} {cs:List Value} (h:TrM d v tk cs):d.tr.isEps=(tk == 1):=by
  have hk:=h.kd
  unfold Lx.Ed.tr
  rcases h.ok.is with rfl | rfl | rfl <;> rw [hk] <;> rfl
theorem outT_len {L L':List LS} {E:List Lx.Ed} {ts:List TP} (h:EdU L L' E ts) (i:Nat):(outT ts i).length=(Lx.outL E i).length:=by
  unfold outT Lx.outL
  rw [← h.ds,List.length_map]
  clear h
  induction ts with
  | nil=>rfl
  | cons x ts ih =>
    rw [List.map_cons,List.filter_cons,List.filter_cons]
    by_cases hx:(x.d.src == i)=true
    · rw [if_pos hx,if_pos hx,List.length_cons,List.length_cons,ih]
    · rw [if_neg hx,if_neg hx,ih]
theorem outL_push (E:List Lx.Ed) (d:Lx.Ed) (i:Nat):Lx.outL (E++[d]) i=if d.src=i then Lx.outL E i++[d.tr] else Lx.outL E i:=by
  rw [Lx.outL_append,Lx.outL_cons,Lx.outL_nil]
  by_cases h:d.src=i
  · rw [if_pos h,if_pos h]
  · rw [if_neg h,if_neg h,List.append_nil]
theorem outT_push (ts:List TP) (x:TP) (i:Nat):outT (ts++[x]) i=if x.d.src=i then outT ts i++[x] else outT ts i:=by
  unfold outT
  rw [List.filter_append]
  by_cases h:x.d.src=i
  · rw [if_pos h]; simp [h]
  · rw [if_neg h]; simp [h]
theorem EdU.step {L L':List LS} {E:List Lx.Ed} {ts:List TP} {d:Lx.Ed} {x t:LS} {tk tb a c:Nat} {cs:List Value} {ta ta':Option Addr} {tc tc':Nat} (h:EdU L L' E ts) (hx:L[d.src]? = some x) (ht:L[d.to]? = some t) (hm:TrM d (ifL t) tk cs)
    (hy:L'[d.src]? = some (trS (Lx.epsOnly (Lx.outL E d.src)) ta tc ((outT ts d.src).map tpV) x)) :
    EdU L (L'.set d.src (trS (eoA (outT ts d.src).length (Lx.epsOnly (Lx.outL E d.src)) (tk == 1)) ta' tc' ((outT ts d.src).map tpV++[tpV ⟨d,tk,tb,cs⟩]) x)) (E++[d]) (ts++[⟨d,tk,tb,cs⟩]):=⟨by rw [List.length_set]; exact h.len,by rw [List.map_append,h.ds]; rfl,fun y hy=>by
    rcases List.mem_append.1 hy with hy | hy
    · exact h.ok y hy
    · rw [List.mem_singleton.1 hy]; exact ⟨t,ht,hm⟩,fun i z hz=>by
    by_cases hi:d.src=i
    · subst hi
      rw [hx] at hz; cases hz
      refine ⟨ta',tc',?_⟩
      rw [List.getElem?_set_self (List.getElem?_eq_some_iff.1 hy).1,outL_push,if_pos rfl,outT_push,if_pos rfl,epsOnly_push,hm.eps,← outT_len h,List.map_append]
      rfl
    · obtain ⟨ta2,tc2,h2⟩:=h.at_ i z hz
      refine ⟨ta2,tc2,?_⟩
      rw [List.getElem?_set_ne hi,outL_push,if_neg hi,outT_push,if_neg hi]
      exact h2⟩
theorem cells_tr {q:Sq} {a v:Value} {n:Int} {eo:Bool} {ta:Option Addr} {tc:Nat} : ((q.cells a n).set 2 (.bool eo)).set 6 (.slice ta (q.tl.length+1) tc)=({ q with eo:=eo,ta:=ta,tc:=tc,tl:=q.tl++[v] } : Sq).cells a n:=by
  unfold Sq.cells Sq.ex
  simp
theorem cells_trS {x:LS} {a v:Value} {n:Int} {eo eo':Bool} {ta ta':Option Addr} {tc tc':Nat} {tl:List Value} : (((trS eo ta tc tl x).q.cells a n).set 2 (.bool eo')).set 6 (.slice ta' (tl.length+1) tc')=(trS eo' ta' tc' (tl++[v]) x).q.cells a n:=cells_tr (q:=(trS eo ta tc tl x).q)
theorem as_rt {k:Nat} (h:TOk k) (p:Value) (w:World):(Instr.typeAssert (.iface (tyT k) p) 266 311 true).run Tryz.prog w=.ok (.tuple #[.pointer none,.bool false]) w:=by
  refine run_assert_miss (e:=316) (by kernel_rfl) (by kernel_rfl) ?_
  rcases h.is with rfl | rfl | rfl <;> decide
end Go.Proofs.YtbcngfgemjdllaaGreatDoor
end
section
namespace Go.Proofs.YtbcngfgemjdllaaGreatDoor
open Go.RowKit Go.Own
variable {B:Nat} {w0 w:World} {r:List HP}
def xS (st lb:Value) (x:LS):LS := { x with q := { x.q with st:=st,lb:=lb } }
def IsIf (v:Value):Prop:=∃ T p,v=.iface T (.pointer p)
structure XU (L L':List LS) (PS PL:Nat→Prop):Prop where
  len:L'.length=L.length
  at_:∀ (i:Nat) (x:LS),L[i]? = some x→∃ st lb,L'[i]? = some (xS st lb x)∧(PS i→IsIf st)∧(¬ PS i→st=x.q.st)∧(PL i→IsIf lb)∧(¬ PL i→lb=x.q.lb)
variable {L L':List LS} {PS PL PS' PL':Nat→Prop}
theorem XU.start:XU L L (fun _=>False) (fun _=>False):=⟨rfl,fun i x h=>⟨x.q.st,x.q.lb,h,False.elim,fun _=>rfl,False.elim,fun _=>rfl⟩⟩
theorem XU.congr (h:XU L L' PS PL) (h1:∀ i,PS i ↔ PS' i) (h2:∀ i,PL i ↔ PL' i):XU L L' PS' PL':=by
  have e1:PS=PS':=funext fun i=>propext (h1 i)
  have e2:PL=PL':=funext fun i=>propext (h2 i)
  rw [← e1,← e2]; exact h
theorem XU.map (h:XU L L' PS PL):L'.map ifL=L.map ifL:=by
  apply List.ext_getElem?
  intro i
  rw [List.getElem?_map,List.getElem?_map]
  cases hx:L[i]? with
  | none =>
    have:L'[i]? = none:=by rw [List.getElem?_eq_none_iff] at hx ⊢; rw [h.len]; exact hx
    rw [this]
  | some x =>
    obtain ⟨st,lb,h1,_⟩:=h.at_ i x hx
    rw [h1]; rfl
theorem XU.zw {Z:ZC} {pos:Nat} {A:AtC} {sa:Option Addr} {sc:Nat} (h:XU L L' PS PL):zwL Z pos A sa sc L' =
    [pts Z.bd 251 (dzC Z.bo Z.da Z.dn Z.dc pos),pts Z.at_ 114 (A.cells (.slice sa L.length sc)),Osl (.slice sa L.length sc) 169 1 L.length (L.map ifL),stars (L'.map (sqL Z.at_))]:=by
  unfold zwL
  rw [h.len,h.map]
theorem XU.stSet {i:Nat} {y:LS} {T:TypeId} {p:Option Addr} (h:XU L L' PS PL) (hy:L'[i]? = some y):XU L (L'.set i (stS (.iface T (.pointer p)) y)) (fun m=>PS m∨m=i) PL:=⟨by rw [List.length_set]; exact h.len,fun m x hx=>by
  obtain ⟨st,lb,h1,h2,h3,h4,h5⟩:=h.at_ m x hx
  by_cases hi:i=m
  · subst hi
    rw [hy] at h1; cases h1
    exact ⟨.iface T (.pointer p),lb,by rw [List.getElem?_set_self (List.getElem?_eq_some_iff.1 hy).1]; rfl,fun _=>⟨T,p,rfl⟩,fun hn=>absurd (Or.inr rfl) hn,h4,h5⟩
  · refine ⟨st,lb,by rw [List.getElem?_set_ne hi]; exact h1,?_,fun hn=>h3 (fun hp=>hn (Or.inl hp)),h4,h5⟩
    rintro (hp | hp)
    · exact h2 hp
    · exact absurd hp.symm hi⟩
def lbT (v:Value) (x:LS):LS := { x with q := { x.q with lb:=v } }
theorem XU.lbSet {i:Nat} {y:LS} {T:TypeId} {p:Option Addr} (h:XU L L' PS PL) (hy:L'[i]? = some y):XU L (L'.set i (lbT (.iface T (.pointer p)) y)) PS (fun m=>PL m∨m=i):=⟨by rw [List.length_set]; exact h.len,fun m x hx=>by
  obtain ⟨st,lb,h1,h2,h3,h4,h5⟩:=h.at_ m x hx
  by_cases hi:i=m
  · subst hi
    rw [hy] at h1; cases h1
    exact ⟨st,.iface T (.pointer p),by rw [List.getElem?_set_self (List.getElem?_eq_some_iff.1 hy).1]; rfl,h2,h3,fun _=>⟨T,p,rfl⟩,fun hn=>absurd (Or.inr rfl) hn⟩
  · refine ⟨st,lb,by rw [List.getElem?_set_ne hi]; exact h1,h2,h3,?_,fun hn=>h5 (fun hp=>hn (Or.inl hp))⟩
    rintro (hp | hp)
    · exact h4 hp
    · exact absurd hp.symm hi⟩
theorem cells7_8 {q:Sq} {a:Value} {n:Int} (h:q.k=8):(q.cells a n)[7]? = some q.st:=by
  unfold Sq.cells Sq.ex
  rw [h]; rfl
theorem set7_8 {q:Sq} {a v:Value} {n:Int} (h:q.k=8):(q.cells a n).set 7 v=({ q with st:=v } : Sq).cells a n:=by
  unfold Sq.cells Sq.ex
  simp only [h]
  rfl
theorem cells10_4 {q:Sq} {a:Value} {n:Int} (h:q.k=4):(q.cells a n)[10]? = some q.lb:=by
  unfold Sq.cells Sq.ex
  rw [h]; rfl
theorem set10_4 {q:Sq} {a v:Value} {n:Int} (h:q.k=4):(q.cells a n).set 10 v=({ q with lb:=v } : Sq).cells a n:=by
  unfold Sq.cells Sq.ex
  simp only [h]
  rfl
theorem cells9_10 {q:Sq} {a:Value} {n:Int} (h:q.k=10):(q.cells a n)[9]? = some q.lb:=by
  unfold Sq.cells Sq.ex
  rw [h]; rfl
theorem set9_10 {q:Sq} {a v:Value} {n:Int} (h:q.k=10):(q.cells a n).set 9 v=({ q with lb:=v } : Sq).cells a n:=by
  unfold Sq.cells Sq.ex
  simp only [h]
  rfl
theorem St.tpCell {ts:List TP} {o:Nat} {y:TP} {u:Value} (H:St B w0 (stars (ts.map tpP)::r) w) (hy:y ∈ ts) (hu:y.cs[o]? = some u):w.cell? ⟨y.tb,o,none⟩=some u:=by
  obtain ⟨n,hn⟩:=List.mem_iff_getElem?.1 hy
  have K:=(show St B w0 (pts y.tb (trT y.tk) y.cs::_) w from H.takeMap (f:=tpP) hn)
  rw [K.cells.1 o,hu]
theorem as_4h {k:Nat} (h:k=4) (p:Value) (w:World):(Instr.typeAssert (.iface (ty k) p) 169 326 true).run Tryz.prog w=.ok (.tuple #[p,.bool true]) w:=by subst h; exact run_assert_hit (e:=331) (by kernel_rfl)
theorem as_4m {k:Nat} (h:KOk k) (hn:k≠4) (p:Value) (w:World):(Instr.typeAssert (.iface (ty k) p) 169 326 true).run Tryz.prog w=.ok (.tuple #[.pointer none,.bool false]) w:=by
  refine run_assert_miss (e:=331) (by kernel_rfl) (by kernel_rfl) ?_
  rcases h.cases with rfl | rfl | rfl | rfl | rfl | rfl | rfl | rfl | rfl | rfl | rfl | rfl <;> first | decide | exact absurd rfl hn
theorem as_11h {k:Nat} (h:k=11) (p:Value) (w:World):(Instr.typeAssert (.iface (ty k) p) 169 322 true).run Tryz.prog w=.ok (.tuple #[p,.bool true]) w:=by subst h; exact run_assert_hit (e:=325) (by kernel_rfl)
theorem as_11m {k:Nat} (h:KOk k) (hn:k≠11) (p:Value) (w:World):(Instr.typeAssert (.iface (ty k) p) 169 322 true).run Tryz.prog w=.ok (.tuple #[.pointer none,.bool false]) w:=by
  refine run_assert_miss (e:=325) (by kernel_rfl) (by kernel_rfl) ?_
  rcases h.cases with rfl | rfl | rfl | rfl | rfl | rfl | rfl | rfl | rfl | rfl | rfl | rfl <;> first | decide | exact absurd rfl hn
theorem as_9h {k:Nat} (h:k=9) (p:Value) (w:World):(Instr.typeAssert (.iface (ty k) p) 169 332 true).run Tryz.prog w=.ok (.tuple #[p,.bool true]) w:=by subst h; exact run_assert_hit (e:=334) (by kernel_rfl)
theorem as_9m {k:Nat} (h:KOk k) (hn:k≠9) (p:Value) (w:World):(Instr.typeAssert (.iface (ty k) p) 169 332 true).run Tryz.prog w=.ok (.tuple #[.pointer none,.bool false]) w:=by
  refine run_assert_miss (e:=334) (by kernel_rfl) (by kernel_rfl) ?_
  rcases h.cases with rfl | rfl | rfl | rfl | rfl | rfl | rfl | rfl | rfl | rfl | rfl | rfl <;> first | decide | exact absurd rfl hn
end Go.Proofs.YtbcngfgemjdllaaGreatDoor
end
