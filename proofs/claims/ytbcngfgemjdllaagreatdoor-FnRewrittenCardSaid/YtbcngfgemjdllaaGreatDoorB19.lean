/- Part 19: N1, M3, M4, M5. -/
import Derived.Deep.AppendLies
import Derived.Test.YtbcngfgemjdllaaGreatDoorB16
import Derived.Test.YtbcngfgemjdllaaGreatDoorB18
set_option linter.unusedVariables false
set_option linter.unusedSimpArgs false
section
namespace Go.Proofs.YtbcngfgemjdllaaGreatDoor
open Go.RowKit Go.Own
def RowAt (w:World) (a:Option Addr) (L:List Value):Prop:=L≠[]→∃ g,a=some ⟨g,0,none⟩∧∀ j u,L[j]? = some u→w.cell? ⟨g,j,none⟩=some u
theorem RowAt.mono {w w':World} {a:Option Addr} {L:List Value} (h:RowAt w a L) (hb:Below w.heap.size w w'):RowAt w' a L:=fun hne=>by
  obtain ⟨g,e,hc⟩:=h hne
  refine ⟨g,e,fun j u hj => ?_⟩
  have hlt:g<w.heap.size:=World.block_lt_of_cell? _ _ (hc j u hj)
  rw [hb.cell (p:=⟨g,_,none⟩) hlt]; exact hc j u hj
theorem RowAt.of {B:Nat} {w0 w:World} {r:List HP} {a:Option Addr} {n c sz:Nat} {E:TypeId} {L:List Value} (H:St B w0 (Osl (.slice a n c) E sz n L::r) w):RowAt w a L:=fun hne=>by
  rcases H.ownCell with ⟨_,_,h⟩ | ⟨g,cap,e,_,hc,_⟩
  · exact absurd h hne
  · injection e with e1
    exact ⟨g,e1,hc⟩
theorem flatN {α : Type} {f : α → List Value} {n:Nat} (hf:∀ x,(f x).length=n):∀ {l:List α} {i t:Nat} {x : α},l[i]? = some x→t<n→(l.flatMap f)[i * n+t]? = (f x)[t]?
  | [],_,_,_,h,_=>by simp at h
  | y::l,0,t,x,h,ht=>by
    simp at h; subst h
    rw [List.flatMap_cons,Nat.zero_mul,Nat.zero_add,List.getElem?_append_left (by rw [hf]; exact ht)]
  | y::l,i+1,t,x,h,ht=>by
    rw [List.flatMap_cons,List.getElem?_append_right (by rw [hf,Nat.add_mul]; omega),hf,show (i+1) * n+t - n=i * n+t from by rw [Nat.add_mul]; omega]
    exact flatN hf (by simpa using h) ht
theorem RowAt.get {w:World} {a:Option Addr} {α : Type} {f : α → List Value} {n:Nat} {l:List α} (hf:∀ x,(f x).length=n) (hn:0<n) (h:RowAt w a (l.flatMap f)) {i:Nat} {x : α} (hi:l[i]? = some x) :
    ∃ g,a=some ⟨g,0,none⟩∧∀ t u,(f x)[t]? = some u→w.cell? ⟨g,i * n+t,none⟩=some u:=by
  have hne:l.flatMap f≠[]:=fun e=>by
    have:=congrArg List.length e
    rw [flat_len hf] at this
    have hlt:=(List.getElem?_eq_some_iff.1 hi).1
    have:l.length * n=0:=this
    rcases Nat.mul_eq_zero.1 this with h | h <;> omega
  obtain ⟨g,e,hc⟩:=h hne
  refine ⟨g,e,fun t u ht=>hc _ _ ?_⟩
  have htn:t<n:=by rw [← hf x]; exact (List.getElem?_eq_some_iff.1 ht).1
  rw [flatN hf hi htn]; exact ht
structure NetV (w:World) (V:NV) (S:BS):Prop where
  r1:RowAt w V.a1 (S.sts.flatMap stC)
  r2:RowAt w V.a2 (S.st.flatMap inC)
  r3:RowAt w V.a3 (S.kd.flatMap inC)
  r4:RowAt w V.a4 (S.ed.flatMap edC)
  r5:RowAt w V.a5 (S.dc.flatMap inC)
theorem NetV.mono {w w':World} {V:NV} {S:BS} (h:NetV w V S) (hb:Below w.heap.size w w'):NetV w' V S:=⟨h.r1.mono hb,h.r2.mono hb,h.r3.mono hb,h.r4.mono hb,h.r5.mono hb⟩
theorem NetV.of {B:Nat} {w0 w:World} {V:NV} {S:BS} {r:List HP} (H:St B w0 (V.rows S++r) w):NetV w V S :=
  ⟨RowAt.of H,RowAt.of (H.pick 1),RowAt.of (H.pick 2),RowAt.of (H.pick 3),RowAt.of (H.pick 4)⟩
theorem sl44:SlT Tryz.prog 44 89 3 24 (.agg #[.int .i64 0,.int .i64 0,.int .i64 0]):=⟨by kernel_rfl,sl_inf' (by kernel_rfl),by kernel_rfl,by decide⟩
theorem sl46:SlT Tryz.prog 46 92 6 48 (.agg #[.int .i64 0,.int .i64 0,.int .i64 0,.int .i64 0,.int .i64 0,.int .i64 0]):=⟨by kernel_rfl,sl_inf' (by kernel_rfl),by kernel_rfl,by decide⟩
def ntC (V:NV) (S:BS) (s1 s4:Value):List Value:=[s1,.slice V.a2 S.st.length V.c2,.slice V.a3 S.kd.length V.c3,s4,.slice V.a5 S.dc.length V.c5]
def zNt:List Value:=[.slice none 0 0,.slice none 0 0,.slice none 0 0,.slice none 0 0,.slice none 0 0]
def N1Rel (w1:World) (V:NV) (S:BS) (i:Value) (wr:World):Prop :=
  ∃ (k:Nat) (a:Option Addr) (c:Nat),k≤S.sts.length∧i=.int .i64 k∧St w1.heap.size w1 [pts (w1.heap.size+1) 48 (ntC V S (.slice a k c) (.slice none 0 0)),Osl (.slice a k c) 89 3 k ((S.sts.take k).flatMap stC),pts w1.heap.size 85 (V.cells S)] wr
def N2Rel (w1:World) (V:NV) (S:BS) (a1:Option Addr) (c1:Nat) (i:Value) (wr:World):Prop :=
  ∃ (k:Nat) (a:Option Addr) (c:Nat),k≤S.ed.length∧i=.int .i64 k∧St w1.heap.size w1 [pts (w1.heap.size+1) 48 (ntC V S (.slice a1 S.sts.length c1) (.slice a k c)),Osl (.slice a k c) 92 6 k ((S.ed.take k).flatMap edC),Osl (.slice a1 S.sts.length c1) 89 3 S.sts.length (S.sts.flatMap stC),pts w1.heap.size 85 (V.cells S)] wr
theorem flat_take {α : Type} {f : α → List Value} {l:List α} {k:Nat} {x : α} (h:l[k]? = some x):(l.take k).flatMap f++f x=(l.take (k+1)).flatMap f:=by
  rw [List.take_add_one,h]
  simp [List.flatMap_append]
end Go.Proofs.YtbcngfgemjdllaaGreatDoor
end
section
namespace Go.Proofs.YtbcngfgemjdllaaGreatDoor
open Go.RowKit Go.Own
variable {B:Nat} {w0 w:World} {r:List HP}
noncomputable def cgV (x:Lx.Cf) (ca:Option Addr) (c:Nat):List Value:=[.int .i64 x.1,.int .i64 x.2,.slice ca 3 c,.bool false,.bool false,.int .i64 (hN x)]
theorem cxAt {a:Option Addr} (h:RowAt w a cxL):∃ g,a=some ⟨g,0,none⟩∧w.cell? ⟨g,0,none⟩=some (.int .i64 1)∧w.cell? ⟨g,1,none⟩=some (.int .i64 2147483647)∧w.cell? ⟨g,2,none⟩=some (.int .i64 (-1)):=by
  obtain ⟨g,e,hc⟩:=h (by simp [cxL])
  exact ⟨g,e,hc 0 _ rfl,hc 1 _ rfl,hc 2 _ rfl⟩
def R28 (w:World) (L:List HP) (i:Value) (wr:World):Prop:=∃ k:Nat,k≤3∧i=.int .i64 (k:Int)∧St w.heap.size w L wr
def Q28 (w:World) (x y:Lx.Cf) (e:Ending) (w':World):Prop:=∃ t:Bool,e=.returned (.bool t)∧(t=true ↔ x=y)∧Below w.heap.size w w'
set_option maxRecDepth 100000 in
set_option maxHeartbeats 8000000 in
theorem c28 {x y:Lx.Cf} {a b:Option Addr} {c d:Nat} (ha:RowAt w a cxL) (hb:RowAt w b cxL) :
    Calls Tryz.prog 28 #[.agg (cgV x a c).toArray,.agg (cgV y b d).toArray] w (Q28 w x y):=by
  obtain ⟨x1,x2⟩:=x
  obtain ⟨y1,y2⟩:=y
  have H0:=((St.nil w).alloc (ob 64 (cgV (x1,x2) a c))).alloc (ob 64 (cgV (y1,y2) b d))
  rw [show (w.alloc (ob 64 (cgV (x1,x2) a c))).heap.size=w.heap.size+1 from Array.size_push _] at H0
  obtain ⟨g1,rfl,p0,p1,p2⟩:=cxAt (ha.mono H0.below)
  obtain ⟨g2,rfl,q0,q1,q2⟩:=cxAt (hb.mono H0.below)
  have z0:=(H0.pick 1).cells.1 0
  have z1:=(H0.pick 1).cells.1 1
  have z2:=(H0.pick 1).cells.1 2
  have z3:=(H0.pick 1).cells.1 3
  have z4:=(H0.pick 1).cells.1 4
  have HB:=Lib.hid H0
  have HAB:=Lib.hid (And.intro ha hb)
  clear H0 ha hb
  unfold cgV
  dsimp only
  by_cases h1:x1=y1
  · by_cases h2:x2=y2
    · subst h1 h2
      go_enter Tryz.func28,Tryz.ntmps28
      go_wp2_with fail
      go_loopw [44] (R28 w [pto (w.heap.size+1) (ob 64 (cgV (x1,x2) (some ⟨g2,0,none⟩) d)),pto w.heap.size (ob 64 (cgV (x1,x2) (some ⟨g1,0,none⟩) c))]) (fun i _=>3 - (intOf i).toNat)
      case atStart=>exact ⟨0,by omega,rfl,HB.out⟩
      case round =>
        clear p0 p1 p2 q0 q1 q2 z0 z1 z2 z3 z4
        obtain ⟨k,hk,rfl,H1⟩:=hrel
        have z2:wr.cell? ⟨w.heap.size,2,none⟩=some (.slice (some ⟨g1,0,none⟩) 3 c):=(H1.pick 1).cells.1 2
        have y2:wr.cell? ⟨w.heap.size+1,2,none⟩=some (.slice (some ⟨g2,0,none⟩) 3 d):=H1.cells.1 2
        by_cases hlt:k<3
        · obtain ⟨z,hz⟩:∃ z:Int,cxL[k]? = some (.int .i64 z):=by
            rcases (by omega:k=0∨k=1∨k=2) with rfl | rfl | rfl
            · exact ⟨_,rfl⟩
            · exact ⟨_,rfl⟩
            · exact ⟨_,rfl⟩
          have e1:wr.cell? ⟨g1,k,none⟩=some (.int .i64 z):=by
            obtain ⟨g,e,hc⟩:=(HAB.out.1.mono H1.below) (by simp [cxL])
            cases e; exact hc k _ hz
          have e2:wr.cell? ⟨g2,k,none⟩=some (.int .i64 z):=by
            obtain ⟨g,e,hc⟩:=(HAB.out.2.mono H1.below) (by simp [cxL])
            cases e; exact hc k _ hz
          have zb:(z != z)=false:=bne_self_eq_false z
          have hk0:(0:Int)≤(k:Int):=Int.natCast_nonneg _
          have hk1:(k:Int)<3:=by omega
          have Hw:=Lib.hid (wrapS hlt (by omega))
          have HH:=Lib.hid H1
          clear H1 hz
          go_wp2_with (first
            | (go_quiet (fail)))
          first | rw [Hw.out] | rw [show ((k:Int)+1)=((k+1:Nat):Int) from by omega]
          exact ⟨⟨k+1,hlt,rfl,HH.out.drewN _⟩,measS hlt⟩
        · have hk1 : ¬ (k:Int)<3:=by omega
          have HH:=Lib.hid H1
          clear H1
          go_wp2_with fail
          refine bodyPost_ret (v:=.bool true) ?_ rfl ⟨true,rfl,⟨fun _=>rfl,fun _=>rfl⟩,HH.out.below⟩
          simp [results,Tryz.results28,go_sem]
    · have hb1:((x1:Int) != (y1:Int))=false:=by rw [h1]; exact bne_self_eq_false _
      have hb2:((x2:Int) != (y2:Int))=true:=by rw [bne_iff_ne]; omega
      clear h1
      go_enter Tryz.func28,Tryz.ntmps28
      go_wp2_with fail
      refine bodyPost_ret (v:=.bool false) ?_ rfl ⟨false,rfl,⟨fun h=>(nomatch h),fun h=>absurd (congrArg Prod.snd h) h2⟩,HB.out.below⟩
      simp [results,Tryz.results28,go_sem]
  · have hb1:((x1:Int) != (y1:Int))=true:=by rw [bne_iff_ne]; omega
    go_enter Tryz.func28,Tryz.ntmps28
    go_wp2_with fail
    refine bodyPost_ret (v:=.bool false) ?_ rfl ⟨false,rfl,⟨fun h=>(nomatch h),fun h=>absurd (congrArg Prod.fst h) h1⟩,HB.out.below⟩
    simp [results,Tryz.results28,go_sem]
end Go.Proofs.YtbcngfgemjdllaaGreatDoor
end
section
namespace Go.Own
open Go.RowKit
section
variable {α β : Type} {B:Nat} {w0 w:World} {r:List HP} {E:TypeId} {sz:Nat} {cs : α → β → List Value} {pt : α → β → HP} {v:Value} {L:List α}
def OwnL {α β : Type} (E:TypeId) (sz:Nat) (cs : α → β → List Value) (pt : α → β → HP) (v:Value) (L:List α):HP:=fun h=>∃ q:List β,q.length=L.length ∧
  star (Osl v E sz L.length ((L.zip q).flatMap fun x=>cs x.1 x.2)) (stars ((L.zip q).map fun x=>pt x.1 x.2)) h
theorem OwnL.opn (H:St B w0 (OwnL E sz cs pt v L::r) w):∃ q:List β,q.length=L.length∧St B w0 (Osl v E sz L.length ((L.zip q).flatMap fun x=>cs x.1 x.2)::stars ((L.zip q).map fun x=>pt x.1 x.2)::r) w:=by
  obtain ⟨q,H1⟩:=H.ex
  obtain ⟨hk,H2⟩:=H1.pure
  exact ⟨q,hk,H2.split⟩
theorem OwnL.cls {q:List β} (hq:q.length=L.length) (H:St B w0 (Osl v E sz L.length ((L.zip q).flatMap fun x=>cs x.1 x.2)::stars ((L.zip q).map fun x=>pt x.1 x.2)::r) w):St B w0 (OwnL E sz cs pt v L::r) w :=
  H.join.imp fun _ h=>⟨q,hq,h⟩
theorem OwnL.nil (H:St B w0 (Osl v E sz 0 []::r) w):St B w0 (OwnL E sz cs pt v ([]:List α)::r) w :=
  OwnL.cls (q:=[]) rfl ((H.pick 0).perm (List.Perm.refl _) |> fun H=>((H.nilStars).pick 1))
theorem OwnL.push {x : α} {y : β} {q:List β} (hq:q.length=L.length) (H:St B w0 (Osl v E sz (L.length+1) (((L.zip q).flatMap fun x=>cs x.1 x.2)++cs x y)::pt x y::stars ((L.zip q).map fun x=>pt x.1 x.2)::r) w) :
    St B w0 (OwnL E sz cs pt v (L++[x])::r) w:=by
  have hz:(L++[x]).zip (q++[y])=L.zip q++[(x,y)]:=by rw [List.zip_append hq.symm]; rfl
  refine OwnL.cls (q:=q++[y]) (by simp [hq]) ?_
  rw [hz]
  have h1:=St.pushMap (f:=fun x : α × β => pt x.1 x.2) (L:=L.zip q) (a:=(x,y)) (H.pick 1 |>.pick 1 |> fun _=>(H.drop))
  have h2:St B w0 (pt x y::stars ((L.zip q).map fun x=>pt x.1 x.2)::Osl v E sz (L.length+1) (((L.zip q).flatMap fun x=>cs x.1 x.2)++cs x y)::r) w:=(H.pick 2).pick 2
  have h3:=(St.pushMap (f:=fun x : α × β => pt x.1 x.2) (L:=L.zip q) (a:=(x,y)) h2).pick 1
  rw [List.length_append,List.flatMap_append]
  simp only [List.length_cons,List.length_nil,Nat.zero_add,List.flatMap_cons,List.flatMap_nil,List.append_nil]
  exact h3
theorem OwnL.get {i:Nat} {x : α} (hs:∀ x y,(cs x y).length=sz) (hz:0<sz) (H:St B w0 (OwnL E sz cs pt v L::r) w) (hx:L[i]? = some x) :
    ∃ (g cap:Nat) (y : β),v=.slice (some ⟨g,0,none⟩) L.length cap∧(∀ t u,(cs x y)[t]? = some u→w.cell? ⟨g,i * sz+t,none⟩=some u)∧∃ l',St B w0 (pt x y::l') w:=by
  obtain ⟨q,hq,H1⟩:=OwnL.opn H
  have hi:i<L.length:=(List.getElem?_eq_some_iff.1 hx).1
  obtain ⟨y,hy⟩:∃ y,q[i]? = some y:=⟨_,List.getElem?_eq_getElem (by omega)⟩
  have hzip:(L.zip q)[i]? = some (x,y):=List.getElem?_zip_eq_some.2 ⟨hx,hy⟩
  have hne:((L.zip q).flatMap fun x=>cs x.1 x.2)≠[]:=fun e=>by
    have:=List.flatMap_eq_nil_iff.1 e (x,y) (List.mem_of_getElem? hzip)
    have h2:=hs x y
    rw [this] at h2; simp at h2; omega
  rcases H1.ownCell with ⟨_,_,h⟩ | ⟨g,cap,e,_,hc,_⟩
  · exact absurd h hne
  · refine ⟨g,cap,y,e,fun t u ht=>hc _ _ ?_,?_⟩
    · have htn:t<sz:=by rw [← hs x y]; exact (List.getElem?_eq_some_iff.1 ht).1
      rw [Go.Proofs.YtbcngfgemjdllaaGreatDoor.flatN (f:=fun x : α × β => cs x.1 x.2) (fun x=>hs x.1 x.2) hzip htn]; exact ht
    · obtain ⟨l',H2⟩:=(H1.pick 1).pickMem (List.mem_map_of_mem (f:=fun x : α × β => pt x.1 x.2) (List.mem_of_getElem? hzip))
      exact ⟨_,H2⟩
end
end Go.Own
namespace Go.Proofs.YtbcngfgemjdllaaGreatDoor
open Go.RowKit Go.Own
variable {B:Nat} {w0 w:World} {r:List HP}
noncomputable def CfR (E:TypeId) (v:Value) (L:List Lx.Cf):HP:=OwnL E 6 (fun x (y:Option Addr × Nat)=>cgV x y.1 y.2) (fun _ y=>Osl (.slice y.1 3 y.2) 3 1 3 cxL) v L
abbrev MX:=Nat × List Lx.Cf × List Lx.Cf
noncomputable def MtR (E E':TypeId) (v:Value) (X:List MX):HP:=OwnL E 4 (fun x (y:Value × Value)=>[.int .i64 (x.1:Int),.int .i64 (hS x.2.1),y.1,y.2]) (fun x y=>star (CfR E' y.1 x.2.1) (CfR E' y.2 x.2.2)) v X
structure CfF (w:World) (v:Value) (L:List Lx.Cf):Prop where
  ex:∃ a c,v=.slice a L.length c∧∀ i x,L[i]? = some x→∃ g ca c',a=some ⟨g,0,none⟩∧(∀ t u,(cgV x ca c')[t]? = some u→w.cell? ⟨g,i * 6+t,none⟩=some u)∧RowAt w ca cxL
  cap:∀ a n c,v=.slice a n c→n≤c
structure MtF (w:World) (v:Value) (X:List MX):Prop where
  ex:∃ a c,v=.slice a X.length c∧∀ i x,X[i]? = some x→∃ g vc va,a=some ⟨g,0,none⟩∧(∀ t u,([.int .i64 (x.1:Int),.int .i64 (hS x.2.1),vc,va]:List Value)[t]? = some u→w.cell? ⟨g,i * 4+t,none⟩=some u)∧CfF w vc x.2.1∧CfF w va x.2.2
  cap:∀ a n c,v=.slice a n c→n≤c
theorem cell_mono {w':World} (hb:Below w.heap.size w w') {b o:Nat} {v:Value} (e:w.cell? ⟨b,o,none⟩=some v):w'.cell? ⟨b,o,none⟩=some v:=by
  rw [hb.cell (p:=⟨b,o,none⟩) (World.block_lt_of_cell? _ _ e)]; exact e
theorem CfF.mono {w':World} {v:Value} {L:List Lx.Cf} (h:CfF w v L) (hb:Below w.heap.size w w'):CfF w' v L:=by
  obtain ⟨a,c,e,h1⟩:=h.ex
  refine ⟨⟨a,c,e,fun i x hx => ?_⟩,h.cap⟩
  obtain ⟨g,ca,c',e1,e2,e3⟩:=h1 i x hx
  exact ⟨g,ca,c',e1,fun t u ht=>cell_mono hb (e2 t u ht),e3.mono hb⟩
theorem MtF.mono {w':World} {v:Value} {X:List MX} (h:MtF w v X) (hb:Below w.heap.size w w'):MtF w' v X:=by
  obtain ⟨a,c,e,h1⟩:=h.ex
  refine ⟨⟨a,c,e,fun i x hx => ?_⟩,h.cap⟩
  obtain ⟨g,vc,va,e1,e2,e3,e4⟩:=h1 i x hx
  exact ⟨g,vc,va,e1,fun t u ht=>cell_mono hb (e2 t u ht),e3.mono hb,e4.mono hb⟩
theorem OwnL.val {α β : Type} {E:TypeId} {sz:Nat} {cs : α → β → List Value} {pt : α → β → HP} {v:Value} {L:List α} (H:St B w0 (OwnL E sz cs pt v L::r) w):∃ a c,v=.slice a L.length c:=by
  obtain ⟨q,_,H1⟩:=OwnL.opn H
  exact H1.ownVal
theorem OwnL.cap {α β : Type} {E:TypeId} {sz:Nat} {cs : α → β → List Value} {pt : α → β → HP} {v:Value} {L:List α} (H:St B w0 (OwnL E sz cs pt v L::r) w):∀ a n c,v=.slice a n c→n≤c:=by
  obtain ⟨q,_,H1⟩:=OwnL.opn H
  obtain ⟨x,y,_,_,⟨_,⟨h1,h2⟩ | ⟨g,cap,cur,e,h3,_⟩⟩,_⟩:=H1.own
  · intro a n c e; rw [h1] at e; injection e; omega
  · intro a n c e2; rw [e] at e2; injection e2; omega
theorem CfF.of {E:TypeId} {v:Value} {L:List Lx.Cf} (H:St B w0 (CfR E v L::r) w):CfF w v L:=by
  obtain ⟨a,c,e⟩:=OwnL.val H
  refine ⟨⟨a,c,e,fun i x hx => ?_⟩,OwnL.cap H⟩
  obtain ⟨g,cap,y,e1,e2,l',e3⟩:=OwnL.get (sz:=6) (fun _ _=>rfl) (by omega) H hx
  rw [e] at e1
  injection e1 with e4
  exact ⟨g,y.1,y.2,e4,e2,RowAt.of e3⟩
theorem MtF.of {E E':TypeId} {v:Value} {X:List MX} (H:St B w0 (MtR E E' v X::r) w):MtF w v X:=by
  obtain ⟨a,c,e⟩:=OwnL.val H
  refine ⟨⟨a,c,e,fun i x hx => ?_⟩,OwnL.cap H⟩
  obtain ⟨g,cap,y,e1,e2,l',e3⟩:=OwnL.get (sz:=4) (fun _ _=>rfl) (by omega) H hx
  rw [e] at e1
  injection e1 with e4
  have e5:=e3.split
  exact ⟨g,y.1,y.2,e4,e2,CfF.of e5,CfF.of (e5.pick 1)⟩
end Go.Proofs.YtbcngfgemjdllaaGreatDoor
end
section
namespace Go.Proofs.YtbcngfgemjdllaaGreatDoor
open Go.RowKit Go.Own
variable {B:Nat} {w0 w:World} {r:List HP}
theorem sl95:SlT Tryz.prog 95 154 6 56 (.agg #[.int .i64 0,.int .i64 0,.slice none 0 0,.bool false,.bool false,.int .i64 0]):=⟨by kernel_rfl,sl_inf' (by kernel_rfl),by kernel_rfl,by decide⟩
theorem sl93:SlT Tryz.prog 93 97 4 64 (.agg #[.int .i64 0,.int .i64 0,.slice none 0 0,.slice none 0 0]):=⟨by kernel_rfl,sl_inf' (by kernel_rfl),by kernel_rfl,by decide⟩
theorem c69l {g o k sb:Nat} {x:Lx.Cf} {xb pb:Nat} (h:CfgA w g o k sb (x.1:Int) (x.2:Int) xb pb):Calls Tryz.prog 69 #[.pointer (some ⟨g,o,none⟩)] w fun e w'=>∃ (ca:Option Addr) (c:Nat),e=.returned (.agg #[.int .i64 (x.1:Int),.int .i64 (x.2:Int),.slice ca 3 c,.bool false,.bool false,.int .i64 (hN x)])∧St w.heap.size w [Osl (.slice ca 3 c) 3 1 3 cxL] w':=c69 h
structure CfS (w:World) (b:Nat) (L:List Lx.Cf):Prop where
  ex:∃ a c,w.cell? ⟨b,3,none⟩=some (.slice a L.length c)∧∀ (i:Nat) (x:Lx.Cf),L[i]? = some x→∃ g cb k s xb pb,a=some ⟨g,0,none⟩∧w.cell? ⟨g,i,none⟩=some (.pointer (some ⟨cb,0,none⟩))∧CfgA w cb 0 k s (x.1:Int) (x.2:Int) xb pb
structure AsS (w:World) (b:Nat) (A:List Lx.Cf):Prop where
  ex:∃ a c,w.cell? ⟨b,0,none⟩=some (.slice a A.length c)∧∀ (i:Nat) (x:Lx.Cf),A[i]? = some x→∃ g k s xb pb,a=some ⟨g,0,none⟩∧CfgA w g (i * 9) k s (x.1:Int) (x.2:Int) xb pb
structure AsF (w:World) (sb:Nat) (L A:List Lx.Cf):Prop where
  ex:∃ b,w.cell? ⟨sb,1,none⟩=some (.pointer (some ⟨b,0,none⟩))∧CfS w b L∧AsS w b A
  hh:∀ w',Below w.heap.size w w'→Calls Tryz.prog 68 #[.pointer (some ⟨sb,0,none⟩)] w' fun e w''=>e=.returned (.int .i64 (hS L))∧w''=w'
  lL:L.length<1099511627776
  lA:A.length<1099511627776
def RCf (w:World) (b:Nat) (f:Value→List Value) (L:List Lx.Cf) (fr:List HP) (i:Value) (wr:World):Prop :=
  ∃ (k:Nat) (a:Option Addr) (c:Nat),k≤L.length∧i=.int .i64 (k:Int)∧St w.heap.size w (pts b 97 (f (.slice a k c))::CfR 154 (.slice a k c) (L.take k)::fr) wr
theorem cfR_push {E:TypeId} {L:List Lx.Cf} {k:Nat} {x:Lx.Cf} {q:List (Option Addr × Nat)} {v:Value} {ca:Option Addr} {c:Nat} (hq:q.length=(L.take k).length) (hx:L[k]? = some x) (H:St B w0 (Osl v E 6 (k+1) ((((L.take k).zip q).flatMap fun x=>cgV x.1 x.2.1 x.2.2)++cgV x ca c)::Osl (.slice ca 3 c) 3 1 3 cxL::stars (((L.take k).zip q).map fun x=>Osl (.slice x.2.1 3 x.2.2) 3 1 3 cxL)::r) w) :
    St B w0 (CfR E v (L.take (k+1))::r) w:=by
  have hk:(L.take k).length=k:=by have:=(List.getElem?_eq_some_iff.1 hx).1; rw [List.length_take]; omega
  have e:L.take (k+1)=L.take k++[x]:=by rw [List.take_add_one,hx]; rfl
  rw [e]
  unfold CfR
  refine OwnL.push (y:=(ca,c)) hq ?_
  rw [hk]
  exact H
structure DfF (w:World) (g nd:Nat) (X:Nat→List (List Lx.Cf × List Lx.Cf)):Prop where
  ex:∀ i,i<nd→∃ d a c,w.cell? ⟨g,i,none⟩=some (.pointer (some ⟨d,0,none⟩))∧w.cell? ⟨d,0,none⟩=some (.slice a (X i).length c) ∧
    ∀ (j:Nat) (q:List Lx.Cf × List Lx.Cf),(X i)[j]? = some q→∃ ga sb,a=some ⟨ga,0,none⟩∧w.cell? ⟨ga,j,none⟩=some (.pointer (some ⟨sb,0,none⟩))∧AsF w sb q.1 q.2
  len:∀ k j,k<nd→j≤(X k).length→((List.range k).flatMap fun i=>(X i).map fun q=>((i,q.1,q.2):MX)).length+j<2147483648
  nd:nd<1099511627776
def TXs (X:Nat→List (List Lx.Cf × List Lx.Cf)) (n:Nat):List MX:=(List.range n).flatMap fun i=>(X i).map fun q=>(i,q.1,q.2)
def TXj (X:Nat→List (List Lx.Cf × List Lx.Cf)) (k j:Nat):List MX:=TXs X k++((X k).take j).map fun q=>(k,q.1,q.2)
theorem TXj_zero {X:Nat→List (List Lx.Cf × List Lx.Cf)} {k:Nat} : TXj X k 0=TXs X k:=by simp [TXj]
theorem TXj_end {X:Nat→List (List Lx.Cf × List Lx.Cf)} {k:Nat} : TXj X k (X k).length=TXs X (k+1):=by
  unfold TXj TXs
  rw [List.take_length,List.range_succ,List.flatMap_append]
  simp
theorem TXj_succ {X:Nat→List (List Lx.Cf × List Lx.Cf)} {k j:Nat} {q:List Lx.Cf × List Lx.Cf} (h:(X k)[j]? = some q):TXj X k (j+1)=TXj X k j++[(k,q.1,q.2)]:=by
  unfold TXj
  rw [List.take_add_one,h]
  simp
theorem mt_push {v vc va:Value} {Y:List MX} {y:MX} {q:List (Value × Value)} (hq:q.length=Y.length)
    (H:St B w0 (Osl v 97 4 (Y.length+1) (((Y.zip q).flatMap fun x=>[.int .i64 (x.1.1:Int),.int .i64 (hS x.1.2.1),x.2.1,x.2.2])++[.int .i64 (y.1:Int),.int .i64 (hS y.2.1),vc,va])::CfR 154 vc y.2.1::CfR 154 va y.2.2 ::
      stars ((Y.zip q).map fun x=>star (CfR 154 x.2.1 x.1.2.1) (CfR 154 x.2.2 x.1.2.2))::r) w):St B w0 (MtR 97 154 v (Y++[y])::r) w:=by
  unfold MtR
  refine OwnL.push (y:=(vc,va)) hq ?_
  exact (((H.pick 2).pick 2).join).pick 1
def R53 (w:World) (X:Nat→List (List Lx.Cf × List Lx.Cf)) (nd:Nat) (v i:Value) (wr:World):Prop:=∃ k:Nat,k≤nd∧i=.int .i64 (k:Int)∧St w.heap.size w [MtR 97 154 v (TXs X k)] wr
def R53j (w:World) (X:Nat→List (List Lx.Cf × List Lx.Cf)) (k:Nat) (v i:Value) (wr:World):Prop:=∃ j:Nat,j≤(X k).length∧i=.int .i64 (j:Int)∧St w.heap.size w [MtR 97 154 v (TXj X k j)] wr
set_option maxRecDepth 100000 in
set_option maxHeartbeats 20000000 in
theorem c53 {g nd cd : Nat} {X : Nat → List (List Lx.Cf × List Lx.Cf)} (hD : DfF w g nd X) : Calls Tryz.prog 53 #[.slice (some ⟨g, 0, none⟩) nd cd] w fun e w' => ∃ v, e = .returned v ∧ St w.heap.size w [MtR 97 154 v (TXs X nd)] w' := by
  have HD:=Lib.hid hD
  clear hD
  go_enter Tryz.func53,Tryz.ntmps53
  go_wp2_with fail
  go_loopw [2,13] (R53 w X nd) (fun _ i _=>nd - (intOf i).toNat)
  case atStart=>exact ⟨0,Nat.zero_le _,rfl,OwnL.nil (St.ownNil (St.nil w) 97 4)⟩
  case round =>
    obtain ⟨k,hk,rfl,H1⟩:=hrel
    by_cases hlt:k<nd
    · have hk0 : (0 : Int) ≤ (k : Int) := Int.natCast_nonneg _
      have hk1:(k:Int)<(nd:Int):=by omega
      have Hw:=Lib.hid (wrapS hlt (by have:=HD.out.nd; omega))
      obtain ⟨d,a,c,e1,e2,e3⟩:=HD.out.ex k hlt
      have d1:=cell_mono H1.below e1
      have d2:=cell_mono H1.below e2
      have HE:=Lib.hid e3
      rw [← TXj_zero] at H1
      have HH:=Lib.hid H1
      clear H1 e1 e2 e3
      go_wp2_with fail
      go_loopw [2,23] (R53j w X k) (fun _ i _=>(X k).length - (intOf i).toNat)
      case atStart=>exact ⟨0,Nat.zero_le _,rfl,HH.out⟩
      case round =>
        obtain ⟨j,hj,rfl,H2⟩:=hrel
        by_cases hlt2:j<(X k).length
        · have hj0 : (0 : Int) ≤ (j : Int) := Int.natCast_nonneg _
          have hj1:(j:Int)<((X k).length:Int):=by omega
          have hlen:=HD.out.len k (j+1) hlt hlt2
          have hXl:=HD.out.len k _ hlt (Nat.le_refl _)
          have Hw2:=Lib.hid (wrapS hlt2 (by omega))
          obtain ⟨⟨L,A⟩,hq⟩:∃ q,(X k)[j]? = some q:=⟨_,List.getElem?_eq_getElem hlt2⟩
          obtain ⟨ga,sb,rfl,e1,hA⟩:=HE.out j _ hq
          have d3:=cell_mono H2.below e1
          obtain ⟨b,e4,⟨a3,c3,e5,e6⟩,⟨a4,c4,e7,e8⟩⟩:=hA.ex
          have h68:=hA.hh _ H2.below
          have Ha:=H2.alloc (ob 97 [.int .i64 (k:Int),.int .i64 (hS L),.slice none 0 0,.slice none 0 0])
          have d4:(wr.alloc (.cells #[.int .i64 (k:Int),.int .i64 (hS L),.slice none 0 0,.slice none 0 0] 97)).cell? ⟨sb,1,none⟩=some (.pointer (some ⟨b,0,none⟩)):=cell_mono Ha.below e4
          have d5:(wr.alloc (.cells #[.int .i64 (k:Int),.int .i64 (hS L),.slice none 0 0,.slice none 0 0] 97)).cell? ⟨b,3,none⟩=some (.slice a3 L.length c3):=cell_mono Ha.below e5
          have HA:=Lib.hid Ha
          have H68:=Lib.hid h68
          have HF:=Lib.hid (And.intro e6 (And.intro e8 (And.intro e4 (And.intro e7 hq))))
          have hlL:=hA.lL
          have hlA:=hA.lA
          clear H2 Ha h68 e1 e4 e5 e6 e7 e8 hA hq
          go_wp2_with (first
            | (go_at_call 68; refine H68.out.mono ?_; rintro e w1 ⟨rfl,rfl⟩))
          go_loopw [39] (RCf w w1.heap.size (fun v=>[.int .i64 (k:Int),.int .i64 (hS L),v,.slice none 0 0]) L [MtR 97 154 u2 (TXj X k j)]) (fun i _=>L.length - (intOf i).toNat)
          case atStart=>exact ⟨0,none,0,Nat.zero_le _,rfl,by rw [List.take_zero]; exact (OwnL.nil (St.ownNil HA.out 154 6)).pick 1⟩
          case round =>
            obtain ⟨m,am,cm,hm,rfl,H3⟩:=hrel
            by_cases hlt3:m<L.length
            · have hm0:(0:Int)≤(m:Int):=Int.natCast_nonneg _
              have hm1:(m:Int)<(L.length:Int):=by omega
              have Hw3:=Lib.hid (wrapS hlt3 (by omega))
              obtain ⟨x,hx⟩:∃ x,L[m]? = some x:=⟨_,List.getElem?_eq_getElem hlt3⟩
              obtain ⟨gc,cb,ck,cs,xb,pb,rfl,f1,hcfg⟩:=HF.out.1 m x hx
              have f2:wr.cell? ⟨gc,m,none⟩=some (.pointer (some ⟨cb,0,none⟩)):=cell_mono H3.below f1
              have hcd:CfgA wr.drew cb 0 ck cs (x.1:Int) (x.2:Int) xb pb:=hcfg.mono H3.drew.below
              clear f1
              obtain ⟨qs,hqs,H4⟩:=OwnL.opn (H3.pick 1)
              have hkl:(L.take m).length=m:=by rw [List.length_take]; omega
              rw [hkl] at H4
              have b2:wr.drew.cell? ⟨w1.heap.size,2,none⟩=some (.slice am m cm):=H3.cells.1 2
              have b2n:wr.cell? ⟨w1.heap.size,2,none⟩=some (.slice am m cm):=H3.cells.1 2
              have HX:=Lib.hid (And.intro hqs (And.intro hx (And.intro H4 hcd)))
              clear hqs hx H3 H4 hcfg hcd hm hkl
              go_wp2_with fail
              go_region_law
                (first
                  | (refine step_append1_st (v:=.slice am m cm) rfl _ _ rfl sl95 (g:=w2.heap.size) (news:=cgV x ca cc) (HA2.out _) rfl 1 rfl rfl rfl (by simp [cgV,Value.oneCell']) (by simp only [maxLen]; omega) (by omega) ?_
                     intro a5 c5 w5 H5
                     have H6:=(H5.pick 3).setCell (off:=2) (.slice a5 (m+1) c5)
                     have hc6:=(H5.pick 3).cells.1 2
                     have hf6:=(H5.pick 3).cells.2 2)
                  | (go_simp; go_at_call 69; refine (c69l (by exact HX.out.2.2.2)).mono ?_; rintro e w2 ⟨ca,cc,rfl,h2⟩
                     have h3:=HX.out.2.2.1.drew.over_base h2
                     have b2c:w2.cell? ⟨w1.heap.size,2,none⟩=some (.slice am m cm):=(h3.pick 3).cells.1 2
                     have b2d:∀ o,(w2.alloc o).cell? ⟨w1.heap.size,2,none⟩=some (.slice am m cm):=fun o=>((h3.alloc o).pick 4).cells.1 2
                     have HA2:=Lib.hid (fun o=>(((h3.alloc o).pick 2).pick 1))
                     clear h2 h3))
              all_goals
                have H8:=cfR_push HX.out.1 HX.out.2.1 (((H6.pick 3).pick 3).pick 3)
                have HY:=Lib.hid (H8.pick 1)
                clear H8 H6 H5 hc6 hf6 HA2 b2 b2n b2c b2d HX f2
                go_wp2_with fail
                first | rw [Hw3.out] | rw [show ((m:Int)+1)=((m+1:Nat):Int) from by omega]
                exact ⟨⟨m+1,a5,c5,hlt3,rfl,HY.out⟩,measS hlt3⟩
            · have hm1 : ¬ (m:Int)<(L.length:Int):=by omega
              have hml:m=L.length:=by omega
              subst hml
              rw [List.take_length] at H3
              have f2:wr.cell? ⟨sb,1,none⟩=some (.pointer (some ⟨b,0,none⟩)):=cell_mono H3.below HF.out.2.2.1
              have f3:wr.cell? ⟨b,0,none⟩=some (.slice a4 A.length c4):=cell_mono H3.below HF.out.2.2.2.1
              have HZ:=Lib.hid H3
              clear H3 hm
              go_wp2_with fail
              go_loopw [59] (RCf w w1.heap.size (fun v=>[.int .i64 (k:Int),.int .i64 (hS L),.slice am L.length cm,v]) A [CfR 154 (.slice am L.length cm) L,MtR 97 154 u2 (TXj X k j)]) (fun i _=>A.length - (intOf i).toNat)
              case atStart=>exact ⟨0,none,0,Nat.zero_le _,rfl,by rw [List.take_zero]; exact (OwnL.nil (St.ownNil HZ.out 154 6)).pick 1⟩
              case round =>
                obtain ⟨m,an,cn,hm,rfl,H3⟩:=hrel
                by_cases hlt3:m<A.length
                · have hm0:(0:Int)≤(m:Int):=Int.natCast_nonneg _
                  have hm1:(m:Int)<(A.length:Int):=by omega
                  have Hw3:=Lib.hid (wrapS hlt3 (by omega))
                  obtain ⟨x,hx⟩:∃ x,A[m]? = some x:=⟨_,List.getElem?_eq_getElem hlt3⟩
                  obtain ⟨gc,ck,cs,xb,pb,rfl,hcfg⟩:=HF.out.2.1 m x hx
                  have f2:wr.cell? ⟨sb,1,none⟩=some (.pointer (some ⟨b,0,none⟩)):=cell_mono H3.below HF.out.2.2.1
                  have f3:wr.cell? ⟨b,0,none⟩=some (.slice (some ⟨gc,0,none⟩) A.length c4):=cell_mono H3.below HF.out.2.2.2.1
                  have f2d:wr.drew.cell? ⟨sb,1,none⟩=some (.pointer (some ⟨b,0,none⟩)):=f2
                  have f3d:wr.drew.cell? ⟨b,0,none⟩=some (.slice (some ⟨gc,0,none⟩) A.length c4):=f3
                  have hcd:CfgA wr.drew gc (m * 9) ck cs (x.1:Int) (x.2:Int) xb pb:=hcfg.mono H3.drew.below
                  obtain ⟨qs,hqs,H4⟩:=OwnL.opn (H3.pick 1)
                  have hkl:(A.take m).length=m:=by rw [List.length_take]; omega
                  rw [hkl] at H4
                  have b2:wr.drew.cell? ⟨w1.heap.size,3,none⟩=some (.slice an m cn):=H3.cells.1 3
                  have b2n:wr.cell? ⟨w1.heap.size,3,none⟩=some (.slice an m cn):=H3.cells.1 3
                  have HX:=Lib.hid (And.intro hqs (And.intro hx (And.intro H4 hcd)))
                  clear hqs hx H3 H4 hcfg hcd hm hkl
                  go_wp2_with fail
                  go_region_law
                    (first
                      | (refine step_append1_st (v:=.slice an m cn) rfl _ _ rfl sl95 (g:=w2.heap.size) (news:=cgV x ca cc) (HA2.out _) rfl 1 rfl rfl rfl (by simp [cgV,Value.oneCell']) (by simp only [maxLen]; omega) (by omega) ?_
                         intro a5 c5 w5 H5
                         have H6:=(H5.pick 3).setCell (off:=3) (.slice a5 (m+1) c5)
                         have hc6:=(H5.pick 3).cells.1 3
                         have hf6:=(H5.pick 3).cells.2 3)
                      | (go_simp; go_at_call 69; refine (c69l (by exact HX.out.2.2.2)).mono ?_; rintro e w2 ⟨ca,cc,rfl,h2⟩
                         have h3:=HX.out.2.2.1.drew.over_base h2
                         have b2c:w2.cell? ⟨w1.heap.size,3,none⟩=some (.slice an m cn):=(h3.pick 3).cells.1 3
                         have b2d:∀ o,(w2.alloc o).cell? ⟨w1.heap.size,3,none⟩=some (.slice an m cn):=fun o=>((h3.alloc o).pick 4).cells.1 3
                         have HA2:=Lib.hid (fun o=>(((h3.alloc o).pick 2).pick 1))
                         clear h2 h3))
                  all_goals
                    have H8:=cfR_push HX.out.1 HX.out.2.1 (((H6.pick 3).pick 3).pick 3)
                    have HY:=Lib.hid (H8.pick 1)
                    clear H8 H6 H5 hc6 hf6 HA2 b2 b2n b2c b2d HX f2 f3 f2d f3d
                    go_wp2_with fail
                    first | rw [Hw3.out] | rw [show ((m:Int)+1)=((m+1:Nat):Int) from by omega]
                    exact ⟨⟨m+1,a5,c5,hlt3,rfl,HY.out⟩,measS hlt3⟩
                · have hm1 : ¬ (m:Int)<(A.length:Int):=by omega
                  have hml:m=A.length:=by omega
                  subst hml
                  rw [List.take_length] at H3
                  have t0:wr.cell? ⟨w1.heap.size,0,none⟩=some (.int .i64 (k:Int)):=H3.cells.1 0
                  have t1:wr.cell? ⟨w1.heap.size,1,none⟩=some (.int .i64 (hS L)):=H3.cells.1 1
                  have t2:wr.cell? ⟨w1.heap.size,2,none⟩=some (.slice am L.length cm):=H3.cells.1 2
                  have t3:wr.cell? ⟨w1.heap.size,3,none⟩=some (.slice an A.length cn):=H3.cells.1 3
                  obtain ⟨qs,hqs,H4⟩:=OwnL.opn (H3.pick 3)
                  have hTl:(TXj X k j).length+1<2147483648:=by
                    have:=hlen
                    unfold TXj TXs
                    rw [List.length_append,List.length_map,List.length_take]
                    omega
                  have HA3:=Lib.hid (H4.alloc (ob 97 [.int .i64 (k:Int),.int .i64 (hS L),.slice am L.length cm,.slice an A.length cn]))
                  have HQ:=Lib.hid hqs
                  clear H3 H4 hqs hm
                  go_wp2_with (first
                    | (at_builtin; go_must (refine wpList_append1_st rfl _ _ rfl sl93 (g:=wr.heap.size) (news:=[.int .i64 (k:Int),.int .i64 (hS L),.slice am L.length cm,.slice an A.length cn]) HA3.out rfl 1 rfl rfl rfl (by simp [Value.oneCell']) (by simp only [maxLen]; omega) (by omega) ?_)
                       intro a5 c5 w5 H5))
                  have h7:=mt_push (y:=(k,L,A)) HQ.out ((((H5.pick 1).pick 3).pick 4).pick 3)
                  have e1:=TXj_succ HF.out.2.2.2.2
                  have H8:=(h7.pick 1).drop
                  rw [← e1] at H8
                  have HY:=Lib.hid H8
                  clear H5 h7 e1 H8
                  first | rw [Hw2.out] | rw [show ((j:Int)+1)=((j+1:Nat):Int) from by omega]
                  exact ⟨⟨j+1,hlt2,rfl,HY.out⟩,measS hlt2⟩
        · have hj1 : ¬ (j:Int)<((X k).length:Int):=by omega
          have hjl:j=(X k).length:=by omega
          subst hjl
          rw [TXj_end] at H2
          have HF:=Lib.hid H2
          clear H2 hj
          go_wp2_with fail
          first | rw [Hw.out] | rw [show ((k:Int)+1)=((k+1:Nat):Int) from by omega]
          exact ⟨⟨k+1,hlt,rfl,HF.out⟩,measS hlt⟩
    · have hk1 : ¬ (k:Int)<(nd:Int):=by omega
      have hkl:k=nd:=by omega
      subst hkl
      have HH:=Lib.hid H1
      clear H1
      go_wp2_with fail
      refine bodyPost_ret (v:=u2) ?_ rfl ⟨_,rfl,HH.out⟩
      simp [results,Tryz.results53,go_sem]
end Go.Proofs.YtbcngfgemjdllaaGreatDoor
end
