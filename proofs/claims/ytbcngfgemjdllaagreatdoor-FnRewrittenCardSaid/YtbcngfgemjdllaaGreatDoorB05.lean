/- Part 5: D9, D10, D11, D12, D13. -/
import Derived.LoopN
import Derived.Test.YtbcngfgemjdllaaGreatDoorB04
set_option linter.unusedVariables false
set_option linter.unusedSimpArgs false
section
namespace Go.Proofs.YtbcngfgemjdllaaGreatDoor
open Go.RowKit Go.Own
structure TrW (kd bk:Nat→Nat) (B:Nat) (w0:World) (tk tb:Nat) (tr:Lx.Tr):Prop where
  lt:tb<B
  ok:TOk tk
  c0:w0.cell? ⟨tb,0,none⟩=some (.iface (ty (kd tr.to)) (.pointer (some ⟨bk tr.to,0,none⟩)))
  c1:w0.cell? ⟨tb,1,none⟩=some (.bool tr.isEps)
  c4:w0.cell? ⟨tb,4,none⟩=some (.int .i64 tk)
  eps:tr.isEps=true→tk=1
  sym:∀ a b q,tr=.sym a b q→(tk=2∧w0.cell? ⟨tb,5,none⟩=some (.int .i64 a)∧w0.cell? ⟨tb,6,none⟩=some (.int .i64 b))∨(tk=5∧a=b∧w0.cell? ⟨tb,2,none⟩=some (.int .i64 a))
structure NetT (kd bk:Nat→Nat) (out:Nat→List Lx.Tr) (B:Nat) (w0:World) (N:Nat):Prop extends NetB kd bk B w0 N where
  eo:∀ n,n<N→w0.cell? ⟨bk n,2,none⟩=some (.bool (Lx.epsOnly (out n)))
  tr:∀ n,n<N→∃ a c,w0.cell? ⟨bk n,6,none⟩=some (.slice a (out n).length c)∧(out n≠[]→∃ g,a=some ⟨g,0,none⟩∧g<B ∧
    ∀ j tr,(out n)[j]? = some tr→tr.to<N∧∃ tk tb,w0.cell? ⟨g,j,none⟩=some (.iface (tyT tk) (.pointer (some ⟨tb,0,none⟩)))∧TrW kd bk B w0 tk tb tr)
  ng:∀ n,n<N→DOk (kd n)→w0.cell? ⟨bk n,8,none⟩=some (.bool false)
  stop:∀ n,n<N→kd n=7→out n=[]
  plain:Lx.Plain out
  len:∀ n,n<N→(out n).length<4611686018427387904
variable {kd bk xf pf:Nat→Nat} {out:Nat→List Lx.Tr} {B N A:Nat} {w0 w:World} {r:List HP} {X P:HP} {b jb mb cmb:Nat} {S:Lx.CS}
theorem SetH.inH (H:SetH kd bk xf pf B w0 b jb mb cmb S (P::r) w):∃ av cv ms,ms.map CfM.key=S.cf∧St B w0 (P::(SetX kd bk xf pf b av cv (-1) false jb mb cmb ms S.ask++r)) w:=by
  obtain ⟨av,cv,ms,h1,h2⟩:=H.ex
  exact ⟨av,cv,ms,h1,h2.perm List.perm_middle⟩
theorem SetH.ofH {av cv:Value} {ms:List CfM} (h:ms.map CfM.key=S.cf) (H:St B w0 (P::(SetX kd bk xf pf b av cv (-1) false jb mb cmb ms S.ask++r)) w):SetH kd bk xf pf B w0 b jb mb cmb S (P::r) w :=
  ⟨av,cv,ms,h,H.perm List.perm_middle.symm⟩
theorem SetH.old (H:SetH kd bk xf pf B w0 b jb mb cmb S r w) {g:Nat} (hg:g<B) (o:Nat):w.cell? ⟨g,o,none⟩=w0.cell? ⟨g,o,none⟩:=by
  obtain ⟨av,cv,ms,h1,h2⟩:=H.ex
  exact h2.old.1 _ _ hg
theorem SetH.heap {cb:Nat} {l:List Value} {T:TypeId} (H:SetH kd bk xf pf B w0 b jb mb cmb S (pts cb T l::r) w):w.heap[cb]? = some (ob T l):=by
  obtain ⟨av,cv,ms,h1,h2⟩:=H.inH
  exact h2.heap.2
theorem SetH.ctx (H:SetH kd bk xf pf B w0 b jb mb cmb S r w) (hcx:CtxX xf pf B w0 X A) (hX:X ∈ r) {a:Nat} (ha:a<A):CtxW w (xf a) (pf a):=by
  obtain ⟨av,cv,ms,h1,h2⟩:=H.ex
  exact hcx.has h2 (by simp [hX]) ha
theorem SetH.drop (H:SetH kd bk xf pf B w0 b jb mb cmb S (P::r) w):SetH kd bk xf pf B w0 b jb mb cmb S r w:=by
  obtain ⟨av,cv,ms,h1,h2⟩:=H.inH
  exact ⟨av,cv,ms,h1,h2.drop⟩
theorem c145_set (h:NetT kd bk out B w0 N) {l cb tb s q a:Nat} {iv:Value} {sp:Bool} (hq:q<N) (H:SetH kd bk xf pf B w0 b jb mb cmb S (pts cb 227 (cfN kd bk xf pf (s,a))::r) w)
    (ht:TrW kd bk B w0 1 tb (.eps q)) :
    Calls Tryz.prog 145 #[.pointer (some ⟨l,0,none⟩),iv,.pointer (some ⟨cb,0,none⟩),.iface (tyT 1) (.pointer (some ⟨tb,0,none⟩)),.pointer (some ⟨b,0,none⟩),.bool sp,.bool false] w
      fun e w'=>∃ nb,e=.returned (.pointer (some ⟨nb,0,none⟩))∧SetH kd bk xf pf B w0 b jb mb cmb S (pts nb 227 (cfN kd bk xf pf (q,a))::pts cb 227 (cfN kd bk xf pf (s,a))::r) w':=by
  obtain ⟨av,cv,ms,h1,h2⟩:=H.inH
  refine (c145_eps (h.kok _ hq) h2 (fun l w' H' hd=>by rw [H'.old.1 _ _ (h.blt _ hq)]; exact h.ng _ hq hd) (by rw [h2.old.1 _ _ ht.lt]; exact ht.c4) (by rw [h2.old.1 _ _ ht.lt]; exact ht.c0)).mono ?_
  rintro e w' ⟨nb,rfl,H1⟩
  refine ⟨nb,rfl,SetH.ofH (av:=av) (cv:=cv) h1 (H1.perm (List.Perm.cons _ List.perm_middle.symm))⟩
@[go_sem] theorem as_stop_hit {k:Nat} (hk:k=7) (p:Value) (w:World):(Instr.typeAssert (.iface (ty k) p) 169 271 true).run Tryz.prog w=.ok (.tuple #[p,.bool true]) w:=by
  subst hk
  exact run_assert_hit (e:=307) (by kernel_rfl)
structure NoStop (k:Nat):Prop where
  ok:KOk k
  ne:k≠7
@[go_sem] theorem as_stop_miss {k:Nat} (hk:NoStop k) (p:Value) (w:World):(Instr.typeAssert (.iface (ty k) p) 169 271 true).run Tryz.prog w=.ok (.tuple #[.pointer none,.bool false]) w:=by
  refine run_assert_miss (e:=307) (by kernel_rfl) (by kernel_rfl) ?_
  obtain ⟨h1,h2⟩:=hk
  rcases h1.cases with rfl | rfl | rfl | rfl | rfl | rfl | rfl | rfl | rfl | rfl | rfl | rfl <;> first | decide | exact absurd rfl h2
set_option maxRecDepth 100000 in
set_option maxHeartbeats 1000000 in
theorem c103_stop (h:NetT kd bk out B w0 N) (hcx:CtxX xf pf B w0 X A) {l cb s a:Nat} {iv:Value} {ca sp:Bool} (hs:s<N) (ha:a<A) (hX:X ∈ r) (hA:∀ y ∈ S.cf,y.2<A)
    (hk7:kd s=7) (hl:S.cf.length<1099511627776) (hl2:S.ask.length<1099511627776) (H:SetH kd bk xf pf B w0 b jb mb cmb S (pts cb 227 (cfN kd bk xf pf (s,a))::r) w) :
    Calls Tryz.prog 103 #[.pointer (some ⟨l,0,none⟩),iv,.pointer (some ⟨cb,0,none⟩),.pointer (some ⟨b,0,none⟩),.bool ca,.bool sp,.bool false] w
      fun e w'=>(∃ t,e=.returned (.bool t))∧SetH kd bk xf pf B w0 b jb mb cmb (Lx.add1 hN S (s,a)) r w':=by
  have hx:=H.ctx hcx (by simp [hX]) ha
  have x1:=hx.x1
  have x3:=hx.x3
  have hob:=H.heap
  have hc1:w.cell? ⟨cb,1,none⟩=some (.iface (ty (kd s)) (.pointer (some ⟨bk s,0,none⟩))):=(cells_at hob).1 1
  have hc3:w.cell? ⟨cb,3,none⟩=some (.pointer (some ⟨xf a,0,none⟩)):=(cells_at hob).1 3
  have h143:=c143 h.toNetB hcx hs ha hX hA H hl hl2
  clear hx hob
  go_enter Tryz.func103,Tryz.ntmps103
  go_wp2_with (first
    | (go_at_call 141; refine (c141 _ _ x1 x3).mono ?_; rintro e w' ⟨rfl,rfl⟩)
    | (go_at_call 142; refine (c142 _ _ x1).mono ?_; rintro e w' ⟨rfl,rfl⟩)
    | (go_at_call 143; refine h143.mono ?_; rintro e w' ⟨rfl,_,H1⟩))
  go_ret
  exact ⟨⟨_,rfl⟩,H1⟩
set_option maxRecDepth 100000 in
set_option maxHeartbeats 1000000 in
theorem c103_none (h:NetT kd bk out B w0 N) (hcx:CtxX xf pf B w0 X A) {l cb s a:Nat} {iv:Value} {ca sp:Bool} (hs:s<N) (ha:a<A) (hX:X ∈ r) (hA:∀ y ∈ S.cf,y.2<A)
    (hk7:kd s≠7) (ho:out s=[]) (hl:S.cf.length<1099511627776) (hl2:S.ask.length<1099511627776) (H:SetH kd bk xf pf B w0 b jb mb cmb S (pts cb 227 (cfN kd bk xf pf (s,a))::r) w) :
    Calls Tryz.prog 103 #[.pointer (some ⟨l,0,none⟩),iv,.pointer (some ⟨cb,0,none⟩),.pointer (some ⟨b,0,none⟩),.bool ca,.bool sp,.bool false] w
      fun e w'=>(∃ t,e=.returned (.bool t))∧SetH kd bk xf pf B w0 b jb mb cmb (Lx.add1 hN S (s,a)) r w':=by
  have hns:NoStop (kd s):=⟨h.kok _ hs,hk7⟩
  have hok:=h.kok _ hs
  have hob:=H.heap
  have hc1:w.cell? ⟨cb,1,none⟩=some (.iface (ty (kd s)) (.pointer (some ⟨bk s,0,none⟩))):=(cells_at hob).1 1
  have hc8:w.cell? ⟨cb,8,none⟩=some (.bool false):=(cells_at hob).1 8
  have he:w.cell? ⟨bk s,2,none⟩=some (.bool false):=by rw [H.old (h.blt _ hs),h.eo _ hs,ho]; rfl
  obtain ⟨ta,tc,ht,_⟩:=h.tr _ hs
  rw [ho,List.length_nil] at ht
  have h143:=c143 h.toNetB hcx hs ha hX hA H hl hl2
  clear hob
  go_enter Tryz.func103,Tryz.ntmps103
  go_wp2_with (first
    | (go_at_call 284; refine (c284 _ _ _ he).mono ?_; rintro e w' ⟨rfl,rfl⟩)
    | (go_at_call 129; refine (c129 _ _ _ ht1).mono ?_; rintro e w' ⟨rfl,rfl⟩)
    | (go_at_call 143; refine h143.mono ?_; rintro e w' ⟨rfl,hob1,H1⟩
       have hd1:w'.cell? ⟨cb,1,none⟩=some (.iface (ty (kd s)) (.pointer (some ⟨bk s,0,none⟩))):=(cells_at hob1).1 1
       have ht1:w'.cell? ⟨bk s,6,none⟩=some (.slice ta 0 tc):=by rw [H1.old (h.blt _ hs),ht])
    | (refine wp_loop_once ?_))
  all_goals go_ret
  all_goals exact ⟨⟨_,rfl⟩,H1⟩
set_option maxRecDepth 100000 in
set_option maxHeartbeats 1000000 in
theorem c103_sym (h:NetT kd bk out B w0 N) (hcx:CtxX xf pf B w0 X A) {l cb s a:Nat} {iv:Value} {ca sp:Bool} {p q:Int} {t:Nat} (hs:s<N) (ha:a<A) (hX:X ∈ r) (hA:∀ y ∈ S.cf,y.2<A)
    (hk7:kd s≠7) (ho:out s=[.sym p q t]) (hl:S.cf.length<1099511627776) (hl2:S.ask.length<1099511627776) (H:SetH kd bk xf pf B w0 b jb mb cmb S (pts cb 227 (cfN kd bk xf pf (s,a))::r) w) :
    Calls Tryz.prog 103 #[.pointer (some ⟨l,0,none⟩),iv,.pointer (some ⟨cb,0,none⟩),.pointer (some ⟨b,0,none⟩),.bool ca,.bool sp,.bool false] w
      fun e w'=>(∃ t,e=.returned (.bool t))∧SetH kd bk xf pf B w0 b jb mb cmb (Lx.add1 hN S (s,a)) r w':=by
  have hns:NoStop (kd s):=⟨h.kok _ hs,hk7⟩
  have hok:=h.kok _ hs
  have hob:=H.heap
  have hc1:w.cell? ⟨cb,1,none⟩=some (.iface (ty (kd s)) (.pointer (some ⟨bk s,0,none⟩))):=(cells_at hob).1 1
  have hc8:w.cell? ⟨cb,8,none⟩=some (.bool false):=(cells_at hob).1 8
  have he:w.cell? ⟨bk s,2,none⟩=some (.bool false):=by rw [H.old (h.blt _ hs),h.eo _ hs,ho]; rfl
  obtain ⟨ta,tc,ht,hte⟩:=h.tr _ hs
  obtain ⟨g,rfl,hg,htr⟩:=hte (by rw [ho]; simp)
  obtain ⟨_,tk,tb,hgc,htw⟩:=htr 0 _ (by rw [ho]; rfl)
  have htk:tk=2∨tk=5:=by rcases htw.sym _ _ _ rfl with h | h; exact .inl h.1; exact .inr h.1
  have ht4:=htw.c4
  have htl:=htw.lt
  have ht0:w0.cell? ⟨bk s,6,none⟩=some (.slice (some ⟨g,0,none⟩) 1 tc):=by rw [ht,ho]; rfl
  clear ht htr hte htw
  have h143:=c143 h.toNetB hcx hs ha hX hA H hl hl2
  clear hob
  go_enter Tryz.func103,Tryz.ntmps103
  go_wp2_with (first
    | (go_at_call 284; refine (c284 _ _ _ he).mono ?_; rintro e w' ⟨rfl,rfl⟩)
    | (go_at_call 129; refine (c129 _ _ _ ht1).mono ?_; rintro e w' ⟨rfl,rfl⟩)
    | (go_at_call 145; refine (c145_sym htk hv4).mono ?_; rintro e w' ⟨rfl,rfl⟩)
    | (go_at_call 143; refine h143.mono ?_; rintro e w' ⟨rfl,hob1,H1⟩
       have hd1:w'.cell? ⟨cb,1,none⟩=some (.iface (ty (kd s)) (.pointer (some ⟨bk s,0,none⟩))):=(cells_at hob1).1 1
       have ht1:w'.cell? ⟨bk s,6,none⟩=some (.slice (some ⟨g,0,none⟩) 1 tc):=by rw [H1.old (h.blt _ hs),ht0]
       have hg1:w'.cell? ⟨g,0,none⟩=some (.iface (tyT tk) (.pointer (some ⟨tb,0,none⟩))):=by rw [H1.old hg,hgc]
       have hv4:w'.cell? ⟨tb,4,none⟩=some (.int .i64 tk):=by rw [H1.old htl,ht4])
    | (refine wp_loop_rounds 2 ?_; rw [rounds_succ])
    | (rw [rounds_succ]))
  all_goals go_ret
  all_goals exact ⟨⟨_,rfl⟩,H1⟩
end Go.Proofs.YtbcngfgemjdllaaGreatDoor
end
section
namespace Go.Proofs.YtbcngfgemjdllaaGreatDoor
open Go.RowKit Go.Own
variable {kd bk xf pf:Nat→Nat} {out:Nat→List Lx.Tr} {B N A:Nat} {w0 w:World} {r:List HP} {X P:HP} {b jb mb cmb:Nat} {S:Lx.CS}
theorem add1_lt {x:Lx.Cf} (hA:∀ y ∈ S.cf,y.2<A) (ha:x.2<A):∀ y ∈ (Lx.add1 hN S x).cf,y.2<A:=by
  intro y hy
  unfold Lx.add1 at hy
  dsimp only at hy
  split at hy
  · exact hA y hy
  · rcases List.mem_append.1 hy with hy | hy
    · exact hA y hy
    · simp at hy; subst hy; exact ha
theorem adds_lt (xs:List Lx.Cf):∀ {S:Lx.CS},(∀ y ∈ S.cf,y.2<A)→(∀ y ∈ xs,y.2<A)→∀ y ∈ (Lx.adds hN S xs).cf,y.2<A:=by
  induction xs with
  | nil=>intro S h _; exact h
  | cons x xs ih=>intro S h hx; exact ih (add1_lt h (hx x (by simp))) (fun y hy=>hx y (by simp [hy]))
theorem adds_len (xs:List Lx.Cf):∀ {S:Lx.CS},S.cf.length≤S.ask.length→(Lx.adds hN S xs).cf.length≤(Lx.adds hN S xs).ask.length:=by
  induction xs with
  | nil=>intro S h; exact h
  | cons x xs ih =>
    intro S h
    refine ih (S:=Lx.add1 hN S x) ?_
    unfold Lx.add1
    dsimp only
    rw [List.length_append]
    split
    · omega
    · rw [List.length_append]; simp; omega
theorem asks_len (xs:List Lx.Cf) (S:Lx.CS):(Lx.adds hN S xs).ask.length=S.ask.length+xs.length:=by rw [Lx.adds_ask,List.length_append]
theorem meas_lt {n k:Nat} (h:k<n):n - (intOf (.int .i64 ((k+1:Nat):Int))).toNat<n - (intOf (.int .i64 (k:Int))).toNat:=by
  show n - (((k+1:Nat):Int)).toNat<n - ((k:Nat):Int).toNat
  rw [Int.toNat_natCast,Int.toNat_natCast]
  omega
theorem wrap_succ {n k:Nat} (h:k<n) (hn:n<4611686018427387904):wrap64 ((k:Int)+1)=((k+1:Nat):Int):=by rw [IntWalk.wrap64_in _ (by omega)]; rfl
structure Clo (kd bk xf pf:Nat→Nat) (out:Nat→List Lx.Tr) (B N A:Nat) (w0:World) (X:HP) (n:Nat):Prop where
  go : ∀ {l cb s a b jb mb cmb : Nat} {iv : Value} {ca sp : Bool} {S : Lx.CS} {r : List HP} {w : World}, s < N → a < A → X ∈ r → (∀ y ∈ S.cf, y.2 < A) → Lx.Dep out n s →
    S.cf.length≤S.ask.length→S.ask.length+(Lx.clo out n s).length<1099511627776→SetH kd bk xf pf B w0 b jb mb cmb S (pts cb 227 (cfN kd bk xf pf (s,a))::r) w →
    Calls Tryz.prog 103 #[.pointer (some ⟨l,0,none⟩),iv,.pointer (some ⟨cb,0,none⟩),.pointer (some ⟨b,0,none⟩),.bool ca,.bool sp,.bool false] w
      fun e w'=>(∃ t,e=.returned (.bool t))∧SetH kd bk xf pf B w0 b jb mb cmb (Lx.adds hN S ((Lx.clo out n s).map (·,a))) r w'
def cloK (out:Nat→List Lx.Tr) (n s a k:Nat):List Lx.Cf:=((out s).take k).flatMap fun tr=>(Lx.clo out n tr.to).map (·,a)
def CloRel (kd bk xf pf:Nat→Nat) (out:Nat→List Lx.Tr) (B:Nat) (w0:World) (b jb mb cmb:Nat) (S:Lx.CS) (n s a:Nat) (r:List HP) (c i:Value) (wr:World):Prop :=
  ∃ (k:Nat) (t:Bool),k≤(out s).length∧i=.int .i64 k∧c=.bool t∧SetH kd bk xf pf B w0 b jb mb cmb (Lx.adds hN S (cloK out n s a k)) r wr
theorem cloK_succ {n s a k:Nat} {tr:Lx.Tr} (h:(out s)[k]? = some tr):cloK out n s a (k+1)=cloK out n s a k++(Lx.clo out n tr.to).map (·,a):=by
  unfold cloK
  rw [List.take_add_one,h]
  simp
theorem cloK_all {n s a:Nat} (he:Lx.epsOnly (out s)=true):cloK out n s a (out s).length=(Lx.clo out (n+1) s).map (·,a):=by
  unfold cloK
  rw [List.take_length]
  simp only [Lx.clo,if_pos he,List.map_flatMap]
theorem cloK_le {n s a k:Nat} {tr:Lx.Tr} (he:Lx.epsOnly (out s)=true) (h:(out s)[k]? = some tr):(cloK out n s a k).length+(Lx.clo out n tr.to).length≤(Lx.clo out (n+1) s).length:=by
  have h1:(cloK out n s a (k+1)).length≤(cloK out n s a (out s).length).length:=by
    unfold cloK
    rw [List.take_length]
    conv=>rhs; rw [← List.take_append_drop (k+1) (out s)]
    rw [List.flatMap_append,List.length_append]
    omega
  rw [cloK_succ h,List.length_append,List.length_map,cloK_all he,List.length_map] at h1
  exact h1
set_option maxRecDepth 100000 in
set_option maxHeartbeats 1000000 in
theorem c103_eps (h:NetT kd bk out B w0 N) (hcx:CtxX xf pf B w0 X A) {n:Nat} (ih:Clo kd bk xf pf out B N A w0 X n) {l cb s a:Nat} {iv:Value} {ca sp:Bool} (hs:s<N) (ha:a<A) (hX:X ∈ r) (hA:∀ y ∈ S.cf,y.2<A)
    (hd:Lx.Dep out (n+1) s) (hee:Lx.epsOnly (out s)=true) (hl:S.cf.length≤S.ask.length) (hl2:S.ask.length+(Lx.clo out (n+1) s).length<1099511627776) (H:SetH kd bk xf pf B w0 b jb mb cmb S (pts cb 227 (cfN kd bk xf pf (s,a))::r) w) :
    Calls Tryz.prog 103 #[.pointer (some ⟨l,0,none⟩),iv,.pointer (some ⟨cb,0,none⟩),.pointer (some ⟨b,0,none⟩),.bool ca,.bool sp,.bool false] w
      fun e w'=>(∃ t,e=.returned (.bool t))∧SetH kd bk xf pf B w0 b jb mb cmb (Lx.adds hN S ((Lx.clo out (n+1) s).map (·,a))) r w':=by
  have hne:out s≠[]:=by intro e; rw [e] at hee; cases hee
  have hok:=h.kok _ hs
  have hns:NoStop (kd s):=⟨hok,fun e=>hne (h.stop _ hs e)⟩
  have hob:=H.heap
  have hc1:w.cell? ⟨cb,1,none⟩=some (.iface (ty (kd s)) (.pointer (some ⟨bk s,0,none⟩))):=(cells_at hob).1 1
  have he:w.cell? ⟨bk s,2,none⟩=some (.bool true):=by rw [H.old (h.blt _ hs),h.eo _ hs,hee]
  obtain ⟨ta,tc,ht,hte⟩:=h.tr _ hs
  obtain ⟨g,rfl,hg,htr⟩:=hte hne
  clear hob hte hne
  have hD:=hd hee
  have HH:=Lib.hid h
  have Htr:=Lib.hid htr
  have Hee:=Lib.hid hee
  have HD:=Lib.hid hD
  have HA:=Lib.hid hA
  have Ht:=Lib.hid ht
  clear htr hee hD hA ht h hd
  go_enter Tryz.func103,Tryz.ntmps103
  go_wp2_with (first
    | (go_at_call 284; refine (c284 _ _ _ he).mono ?_; rintro e w' ⟨rfl,rfl⟩))
  go_loopw [4,21] (CloRel kd bk xf pf out B w0 b jb mb cmb S n s a (pts cb 227 (cfN kd bk xf pf (s,a))::r)) (fun _ i _=>(out s).length - (intOf i).toNat)
  case atStart=>exact ⟨0,_,Nat.zero_le _,rfl,rfl,by simpa [cloK,Lx.adds] using H⟩
  case round =>
    obtain ⟨k,t,hk,rfl,rfl,H1⟩:=hrel
    have hob1:=H1.heap
    have hd1:wr.cell? ⟨cb,1,none⟩=some (.iface (ty (kd s)) (.pointer (some ⟨bk s,0,none⟩))):=(cells_at hob1).1 1
    have ht1:wr.cell? ⟨bk s,6,none⟩=some (.slice (some ⟨g,0,none⟩) (out s).length tc):=by rw [H1.old (HH.out.blt _ hs),Ht.out]
    clear hob1
    by_cases hlt:k<(out s).length
    · obtain ⟨hto,tk,tb,hgc,htw⟩:=Htr.out k _ (List.getElem?_eq_getElem hlt)
      have heps:=Lx.eps_of_only Hee.out (List.getElem_mem hlt)
      obtain rfl:tk=1:=htw.eps (by rw [heps]; rfl)
      have hg1:wr.cell? ⟨g,k,none⟩=some (.iface (tyT 1) (.pointer (some ⟨tb,0,none⟩))):=by rw [H1.old hg,hgc]
      have htw':TrW kd bk B w0 1 tb (.eps (out s)[k].to):=heps ▸ htw
      have h145:=fun l iv sp=>c145_set HH.out (l:=l) (iv:=iv) (sp:=sp) hto H1 htw'
      have hk0:(0:Int)≤(k:Int):=Int.natCast_nonneg _
      have hk1:(k:Int)<((out s).length:Int):=by omega
      have Hgk:=Lib.hid (List.getElem?_eq_getElem hlt)
      have hA2:∀ y ∈ (Lx.adds hN S (cloK out n s a k)).cf,y.2<A:=adds_lt _ HA.out (by
        intro y hy
        simp only [cloK,List.mem_flatMap,List.mem_map] at hy
        obtain ⟨_,_,_,_,rfl⟩:=hy
        exact ha)
      have hsum:(Lx.adds hN S (cloK out n s a k)).ask.length+(Lx.clo out n (out s)[k].to).length<1099511627776:=by
        rw [asks_len]
        have:=cloK_le (n:=n) (a:=a) Hee.out Hgk.out
        omega
      have h103:=fun (w2:World) (nb:Nat) (t sp:Bool) (iv:Value) (l:Nat) H2=>ih.go (l:=l) (cb:=nb) (iv:=iv) (ca:=t) (sp:=sp) (w:=w2) (b:=b) (jb:=jb) (mb:=mb) (cmb:=cmb) hto ha (r:=pts cb 227 (cfN kd bk xf pf (s,a))::r) (by simp [hX]) hA2 (HD.out _ (List.getElem_mem hlt)) (adds_len _ hl) hsum H2
      have H103:=Lib.hid h103
      clear htw htw' heps hgc h103 hA2 hsum
      go_wp2_with (first
        | (go_at_call 129; refine (c129 _ _ _ ht1).mono ?_; rintro e w' ⟨rfl,rfl⟩)
        | (go_at_call 145; refine (h145 _ _ _).mono ?_; rintro e w2 ⟨nb,rfl,H2⟩)
        | (go_at_call 103; refine (H103.out _ _ _ _ _ _ H2).mono ?_; rintro e w3 ⟨⟨t',rfl⟩,H3⟩))
      have hlen:=HH.out.len _ hs
      have hw:wrap64 ((k:Int)+1)=((k+1:Nat):Int):=wrap_succ hlt hlen
      rw [hw]
      refine ⟨⟨k+1,t',hlt,rfl,rfl,?_⟩,?_⟩
      · rw [cloK_succ Hgk.out,Lx.adds_append]; exact H3
      · exact meas_lt hlt
    · have hkl:k=(out s).length:=by omega
      have hk1 : ¬ (k:Int)<((out s).length:Int):=by omega
      rw [hkl,cloK_all Hee.out] at H1
      clear hkl
      go_wp2_with (first
        | (go_at_call 129; refine (c129 _ _ _ ht1).mono ?_; rintro e w' ⟨rfl,rfl⟩))
      go_ret
      exact ⟨⟨_,rfl⟩,H1.drop⟩
theorem clo_all (h:NetT kd bk out B w0 N) (hcx:CtxX xf pf B w0 X A):∀ n,Clo kd bk xf pf out B N A w0 X n
  | 0=>⟨fun _ _ _ _ hd=>hd.elim⟩
  | n + 1 => ⟨fun {l cb s a b jb mb cmb iv ca sp S r w} hs ha hX hA hd hl hl2 H => by
    by_cases hee:Lx.epsOnly (out s)=true
    · exact c103_eps h hcx (clo_all h hcx n) hs ha hX hA hd hee hl hl2 H
    · have hc:(Lx.clo out (n+1) s).map (·,a)=[(s,a)]:=by simp [Lx.clo,if_neg hee]
      have hcl:(Lx.clo out (n+1) s).length=1:=by simp [Lx.clo,if_neg hee]
      rw [hc]
      rw [hcl] at hl2
      show Calls _ _ _ _ fun e w'=>_∧SetH kd bk xf pf B w0 b jb mb cmb (Lx.add1 hN S (s,a)) r w'
      by_cases hk:kd s=7
      · exact c103_stop h hcx hs ha hX hA hk (by omega) (by omega) H
      · rcases h.plain s with ho | ho | ⟨p,q,t,ho⟩
        · exact c103_none h hcx hs ha hX hA hk ho (by omega) (by omega) H
        · exact absurd ho hee
        · exact c103_sym h hcx hs ha hX hA hk ho (by omega) (by omega) H⟩
end Go.Proofs.YtbcngfgemjdllaaGreatDoor
end
section
namespace Go.Proofs.YtbcngfgemjdllaaGreatDoor
open Go.RowKit Go.Own
variable {kd bk xf pf:Nat→Nat} {out:Nat→List Lx.Tr} {B N A:Nat} {w0 w:World} {r:List HP} {X P:HP}
@[go_sem] theorem run_makeMap1 (w:World):(Instr.makeMap 260 (some (.int .i64 1))).run Tryz.prog w=.ok (.map (some w.heap.size)) (w.alloc (.map #[] 0)):=by
  simp [Instr.makeMap,run_underlying mt260.und,asInt,asIntOf]
set_option maxRecDepth 100000 in
theorem c70 {cmb:Nat} {n:Int} {d:ByteArray} (H:St B w0 r w):Calls Tryz.prog 70 #[.iface 346 (.pointer (some ⟨cmb,0,none⟩)),.int .i64 n,.string d] w
    fun e w'=>∃ jb mb,e=.returned (.pointer (some ⟨jb,0,none⟩))∧St B w0 (pts jb 262 [.map (some mb),.int .i64 0,.iface 346 (.pointer (some ⟨cmb,0,none⟩))]::Mp mb []::r) w':=by
  go_enter Tryz.func70,Tryz.ntmps70
  go_wp2_with fail
  go_ret
  refine ⟨w.heap.size+1,w.heap.size,rfl,?_⟩
  have H1:=((H.alloc (.map #[] 0)).toMp (D:=[]) rfl).alloc (ob 262 [.map (some w.heap.size),.int .i64 0,.iface 346 (.pointer (some ⟨cmb,0,none⟩))])
  have e:(w.alloc (.map #[] 0)).heap.size=w.heap.size+1:=by
    show (w.heap.push _).size=_
    rw [Array.size_push]
  rw [e] at H1
  exact H1
theorem c100 (H:St B w0 r w):Calls Tryz.prog 100 #[] w
    fun e w'=>∃ b jb mb cmb,e=.returned (.pointer (some ⟨b,0,none⟩))∧SetH kd bk xf pf B w0 b jb mb cmb ⟨[],[]⟩ r w':=by
  go_enter Tryz.func100,Tryz.ntmps100
  go_wp2_with (first
    | (go_at_call 70; refine (c70 (H.alloc _)).mono ?_; rintro e w' ⟨jb,mb,rfl,H1⟩))
  go_ret
  refine ⟨_,jb,mb,w.heap.size,rfl,.slice none 0 0,.slice none 0 0,[],rfl,?_⟩
  have H2:=((((H1.pick 2).drop).perm (r:=[]++_) (List.Perm.refl _)).joins.pick 2).pick 2
  exact (((H2.alloc (ob 221 (setL (.slice none 0 0) (.slice none 0 0) (-1) jb false))).ownNil 222 1).ownNil 227 9).pick 2
end Go.Proofs.YtbcngfgemjdllaaGreatDoor
end
section
namespace Go.Proofs.YtbcngfgemjdllaaGreatDoor
open Go.RowKit Go.Own
variable {kd bk xf pf xf' pf':Nat→Nat} {out:Nat→List Lx.Tr} {B N A:Nat} {w0 w:World} {r:List HP} {X P:HP} {b jb mb cmb:Nat} {S:Lx.CS}
theorem cfN_congr {x:Nat × Nat} (h:xf x.2=xf' x.2∧pf x.2=pf' x.2):cfN kd bk xf pf x=cfN kd bk xf' pf' x:=by
  unfold cfN
  rw [h.1,h.2]
theorem SetX_congr {av cv:Value} {ch:Int} {ro:Bool} {ms:List CfM} {aq:List (Nat × Nat)} (h1:∀ m ∈ ms,xf m.a=xf' m.a∧pf m.a=pf' m.a) (h2:∀ y ∈ aq,xf y.2=xf' y.2∧pf y.2=pf' y.2) :
    SetX kd bk xf pf b av cv ch ro jb mb cmb ms aq=SetX kd bk xf' pf' b av cv ch ro jb mb cmb ms aq:=by
  have e1:aq.flatMap (cfN kd bk xf pf)=aq.flatMap (cfN kd bk xf' pf'):=by
    rw [List.flatMap_def,List.flatMap_def,List.map_congr_left (fun y hy=>cfN_congr (h2 y hy))]
  have e2:ms.map (CfP kd bk xf pf)=ms.map (CfP kd bk xf' pf'):=List.map_congr_left fun m hm=>by
    unfold CfP
    rw [cfN_congr (x:=(m.n,m.a)) (h1 m hm)]
  unfold SetX
  rw [e1,e2]
theorem SetH.congr (H:SetH kd bk xf pf B w0 b jb mb cmb S r w) (h1:∀ y ∈ S.cf,xf y.2=xf' y.2∧pf y.2=pf' y.2) (h2:∀ y ∈ S.ask,xf y.2=xf' y.2∧pf y.2=pf' y.2):SetH kd bk xf' pf' B w0 b jb mb cmb S r w:=by
  obtain ⟨av,cv,ms,hk,H⟩:=H.ex
  refine ⟨av,cv,ms,hk,?_⟩
  rw [← SetX_congr (xf:=xf) (pf:=pf) (fun m hm => ?_) h2]
  · exact H
  · exact h1 m.key (by rw [← hk]; exact List.mem_map_of_mem hm)
def CtxP (xf pf:Nat→Nat) (i:Nat):HP:=star (pts (xf (i+1)) 351 ctxC) (pts (pf (i+1)) 495 predC)
def CtxS (xf pf:Nat→Nat) (k:Nat):HP:=stars ((List.range k).map (CtxP xf pf))
theorem ctxW_of {xb pb:Nat} (h1:w.heap[xb]? = some (ob 351 ctxC)) (h2:w.heap[pb]? = some (ob 495 predC)):CtxW w xb pb :=
  ⟨(cells_at h1).1 0,(cells_at h1).1 1,(cells_at h1).1 3,(cells_at h2).1 0,(cells_at h2).1 1,(cells_at h2).1 2,h1⟩
theorem ctxX_of {k:Nat} (hk:0<k) (hx:xf 0=xf 1) (hp:pf 0=pf 1):CtxX xf pf B w0 (CtxS xf pf k) (k+1):=by
  refine ⟨fun l w' H a ha => ?_⟩
  have hi:∀ i,i<k→CtxW w' (xf (i+1)) (pf (i+1)):=fun i hi=>by
    obtain ⟨l',H'⟩:=H.pickMem (List.mem_map_of_mem (f:=CtxP xf pf) (List.mem_range.2 hi))
    have H2:=H'.split
    exact ctxW_of H2.heap.2 (H2.pick 1).heap.2
  cases a with
  | zero=>rw [hx,hp]; exact hi 0 hk
  | succ a=>exact hi a (by omega)
theorem CtxS_succ {k:Nat} {xb pb:Nat} {l:List HP} (H:St B w0 (pts xb 351 ctxC::pts pb 495 predC::CtxS xf pf k::l) w) (h1:∀ a,1≤a→a≤k→xf' a=xf a∧pf' a=pf a) (h2:xf' (k+1)=xb) (h3:pf' (k+1)=pb) :
    St B w0 (CtxS xf' pf' (k+1)::l) w:=by
  have e:(List.range (k+1)).map (CtxP xf' pf')=(List.range k).map (CtxP xf pf)++[star (pts xb 351 ctxC) (pts pb 495 predC)]:=by
    rw [List.range_succ,List.map_append]
    congr 1
    · refine List.map_congr_left fun i hi => ?_
      have hi:=List.mem_range.1 hi
      unfold CtxP
      rw [(h1 (i+1) (by omega) (by omega)).1,(h1 (i+1) (by omega) (by omega)).2]
    · simp [CtxP,h2,h3]
  unfold CtxS
  rw [e]
  exact H.join.push
def st0K (out:Nat→List Lx.Tr) (n k:Nat):List Lx.Cf:=((out 0).take k).zipIdx.flatMap fun x=>(Lx.clo out n x.1.to).map (·,x.2+1)
theorem st0K_succ {n k:Nat} {tr:Lx.Tr} (h:(out 0)[k]? = some tr):st0K out n (k+1)=st0K out n k++(Lx.clo out n tr.to).map (·,k+1):=by
  unfold st0K
  have hk:=(List.getElem?_eq_some_iff.1 h).1
  rw [List.take_add_one,h]
  simp only [Option.toList_some,List.zipIdx_append,List.flatMap_append,List.length_take]
  rw [Nat.min_eq_left (by omega)]
  simp
theorem st0K_all {n:Nat} : st0K out n (out 0).length=Lx.st0 out n:=by
  unfold st0K Lx.st0
  rw [List.take_length]
theorem st0K_alt {n k:Nat} : ∀ y ∈ st0K out n k,1≤y.2∧y.2≤k:=by
  intro y hy
  unfold st0K at hy
  obtain ⟨⟨tr,i⟩,h1,h2⟩:=List.mem_flatMap.1 hy
  obtain ⟨q,_,rfl⟩:=List.mem_map.1 h2
  have:=List.mem_zipIdx h1
  simp only [List.length_take] at this
  dsimp only
  omega
theorem adds_mem (xs:List Lx.Cf):∀ {S:Lx.CS} (Q:Lx.Cf→Prop),(∀ y ∈ S.cf,Q y)→(∀ y ∈ xs,Q y)→∀ y ∈ (Lx.adds hN S xs).cf,Q y:=by
  induction xs with
  | nil=>intro S Q h _; exact h
  | cons x xs ih =>
    intro S Q h hx
    refine ih (S:=Lx.add1 hN S x) Q ?_ (fun y hy=>hx y (by simp [hy]))
    intro y hy
    unfold Lx.add1 at hy
    dsimp only at hy
    split at hy
    · exact h y hy
    · rcases List.mem_append.1 hy with hy | hy
      · exact h y hy
      · simp at hy; rw [hy]; exact hx x (by simp)
end Go.Proofs.YtbcngfgemjdllaaGreatDoor
end
section
namespace Go.Proofs.YtbcngfgemjdllaaGreatDoor
open Go.RowKit Go.Own
variable {kd bk xf pf xf' pf':Nat→Nat} {out:Nat→List Lx.Tr} {B N A:Nat} {w0 w:World} {r:List HP} {X P:HP} {b jb mb cmb:Nat} {S:Lx.CS}
def SttRel (kd bk:Nat→Nat) (out:Nat→List Lx.Tr) (B:Nat) (w0:World) (b jb mb cmb:Nat) (n:Nat) (r:List HP) (i:Value) (wr:World):Prop :=
  ∃ (k:Nat) (xf pf:Nat→Nat),k≤(out 0).length∧i=.int .i64 k∧(0<k→xf 0=xf 1∧pf 0=pf 1)∧SetH kd bk xf pf B w0 b jb mb cmb (Lx.adds hN ⟨[],[]⟩ (st0K out n k)) (CtxS xf pf k::r) wr
def upd (f:Nat→Nat) (k v:Nat):Nat→Nat:=fun a=>if a=k+1∨(k=0∧a=0) then v else f a
theorem upd_new {f:Nat→Nat} {k v:Nat} : upd f k v (k+1)=v:=by simp [upd]
theorem upd_old {f:Nat→Nat} {k v a:Nat} (h1:1≤a) (h2:a≤k):upd f k v a=f a:=by
  unfold upd
  rw [if_neg]
  omega
theorem upd_zero {f:Nat→Nat} {k v:Nat} (h:0<k→f 0=f 1):upd f k v 0=upd f k v 1:=by
  by_cases hk:k=0
  · subst hk; simp [upd]
  · unfold upd
    rw [if_neg (by omega),if_neg (by omega)]
    exact h (by omega)
theorem st0K_le {n k:Nat} {tr:Lx.Tr} (h:(out 0)[k]? = some tr):(st0K out n k).length+(Lx.clo out n tr.to).length≤(Lx.st0 out n).length:=by
  have h1:(st0K out n (k+1)).length≤(st0K out n (out 0).length).length:=by
    unfold st0K
    rw [List.take_length]
    conv=>rhs; rw [← List.take_append_drop (k+1) (out 0)]
    rw [List.zipIdx_append,List.flatMap_append,List.length_append]
    omega
  rw [st0K_succ h,List.length_append,List.length_map,st0K_all] at h1
  exact h1
theorem newAlt {k q nb pb xb:Nat} (hz:0<k→xf 0=xf 1∧pf 0=pf 1) (hS1:∀ y ∈ S.cf,1≤y.2∧y.2≤k) (hS2:∀ y ∈ S.ask,1≤y.2∧y.2≤k) {av cv:Value} {ms:List CfM} (hk:ms.map CfM.key=S.cf)
    (H:St B w0 (pts nb 227 (cfC (kd q) (bk q) ((k+1:Nat):Int) xb pb)::pts pb 495 predC::pts xb 351 ctxC::(SetX kd bk xf pf b av cv (-1) false jb mb cmb ms S.ask++CtxS xf pf k::r)) w) :
    SetH kd bk (upd xf k xb) (upd pf k pb) B w0 b jb mb cmb S (pts nb 227 (cfN kd bk (upd xf k xb) (upd pf k pb) (q,k+1))::CtxS (upd xf k xb) (upd pf k pb) (k+1)::r) w:=by
  have hS1':∀ y ∈ S.cf,xf y.2=upd xf k xb y.2∧pf y.2=upd pf k pb y.2:=fun y hy=>⟨(upd_old (hS1 y hy).1 (hS1 y hy).2).symm,(upd_old (hS1 y hy).1 (hS1 y hy).2).symm⟩
  have hS2':∀ y ∈ S.ask,xf y.2=upd xf k xb y.2∧pf y.2=upd pf k pb y.2:=fun y hy=>⟨(upd_old (hS2 y hy).1 (hS2 y hy).2).symm,(upd_old (hS2 y hy).1 (hS2 y hy).2).symm⟩
  have e:cfN kd bk (upd xf k xb) (upd pf k pb) (q,k+1)=cfC (kd q) (bk q) ((k+1:Nat):Int) xb pb:=by
    unfold cfN
    rw [upd_new,upd_new]
  have H1:St B w0 (pts xb 351 ctxC::pts pb 495 predC::CtxS xf pf k::pts nb 227 (cfC (kd q) (bk q) ((k+1:Nat):Int) xb pb)::(SetX kd bk xf pf b av cv (-1) false jb mb cmb ms S.ask++r)) w:=by
    refine H.perm ?_
    refine List.Perm.trans (List.Perm.cons _ (List.Perm.cons _ (List.Perm.cons _ List.perm_middle))) ?_
    have p:∀ (a b c d:HP) (l:List HP),List.Perm (a::b::c::d::l) (c::b::d::a::l):=fun a b c d l=>by
      refine ((List.Perm.swap b a (c::d::l)).trans ?_)
      refine ((List.Perm.cons b (List.Perm.swap c a (d::l))).trans ?_)
      refine ((List.Perm.swap c b (a::d::l)).trans ?_)
      exact List.Perm.cons c (List.Perm.cons b (List.Perm.swap d a l))
    exact p _ _ _ _ _
  have H2:=CtxS_succ (xf':=upd xf k xb) (pf':=upd pf k pb) H1 (fun a h1 h2=>⟨upd_old h1 h2,upd_old h1 h2⟩) upd_new upd_new
  refine ⟨av,cv,ms,hk,?_⟩
  rw [e,← SetX_congr (xf:=xf) (pf:=pf) (fun m hm=>hS1' m.key (by rw [← hk]; exact List.mem_map_of_mem hm)) hS2']
  refine H2.perm ?_
  refine List.Perm.trans (List.Perm.swap _ _ _) ?_
  exact (List.perm_middle.trans (List.Perm.cons _ List.perm_middle)).symm
end Go.Proofs.YtbcngfgemjdllaaGreatDoor
end
