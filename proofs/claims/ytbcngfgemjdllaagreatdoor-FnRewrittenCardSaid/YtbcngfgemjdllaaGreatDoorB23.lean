/- Part 23: D35, D36, D37, D38, D39. -/
import Derived.Laws.MakeOwn
import Derived.Test.YtbcngfgemjdllaaGreatDoorB22
set_option linter.unusedVariables false
set_option linter.unusedSimpArgs false
section
namespace Go.Proofs.YtbcngfgemjdllaaGreatDoor
open Go.RowKit Go.Own
variable {kd bk xf pf ru:Nat→Nat} {B N A:Nat} {w0 w:World} {r:List HP} {X:HP} {m:DM} {D:Lx.DS} {stop:Nat→Bool} {kindOf:Nat→Int} {s:SM} {d:Nat} {ats:Value} {dec:Int}
@[go_sem] theorem run_eql_slice_nilX {P:Program} {w:World} (t e:TypeId) (a:Option Addr) (l c:Nat) (h:P.underlying t=some (.slice e)):(binOp .eql t (.slice a l c) (.slice none 0 0)).run P w=.ok (.bool a.isNone) w:=by
  simp only [binOp]
  simp [run_equal_slice_nil w t e a l c h]
theorem DfaL.state {k:Nat} (hk:m.ms[k]? = some s) (H:St B w0 (DfaL kd bk xf pf d ats dec m++r) w) :
    (∀ o,w.cell? ⟨s.sb,o,none⟩=s.cells[o]?)∧(∀ o,w.frozen? ⟨s.sb,o,none⟩=false)∧∀ e,s.eb=some e→(∀ o,w.cell? ⟨e,o,none⟩=s.eg[o]?)∧∀ o,w.frozen? ⟨e,o,none⟩=false:=by
  unfold DfaL at H
  have H1:=SP.parts (St.takeMap (H.pick 3) hk)
  have c1:=(H1.pick 1).cells
  refine ⟨c1.1,c1.2,fun e he => ?_⟩
  have H2:=H1.pick 2
  unfold EdP at H2
  rw [he] at H2
  exact H2.cells
theorem c75_neg {l sb:Nat} {c:Int} (hc:c<0):Calls Tryz.prog 75 #[bp l,bp sb,.int .i64 c] w fun e w'=>e=.returned (.pointer none)∧w=w':=by
  go_enter Tryz.func75,Tryz.ntmps75
  go_wp2_with fail
  go_ret
  exact ⟨rfl,rfl⟩
theorem c75 {l k c:Nat} (hm:DMok N A stop kindOf m D) (hk:m.ms[k]? = some s) (hc:c≤127) (H:St B w0 (DfaL kd bk xf pf d ats dec m++r) w) :
    Calls Tryz.prog 75 #[bp l,bp s.sb,.int .i64 c] w fun e w'=>(∃ v,e=.returned v∧EdIs m v (D.edges k c))∧w=w':=by
  obtain ⟨h1,h2,h3⟩:=DfaL.state hk H
  obtain ⟨ed1,ed2⟩:=hm.ed k s hk
  have hs2:w.cell? ⟨s.sb,2,none⟩=some (edV s.eb):=h1 2
  have hc0 : ¬ (c:Int)<0:=by omega
  have hc1 : ¬ (127:Int)<(c:Int):=by omega
  have hw:wrap64 ((c:Int) - 0)=c:=by rw [IntWalk.wrap64_in _ (by omega)]; omega
  cases he:s.eb with
  | none =>
    have hn:=ed1 he c
    rw [he] at hs2
    unfold edV at hs2
    rw [hn]
    clear h1 h2 h3 ed1 ed2 H hm
    go_enter Tryz.func75,Tryz.ntmps75
    go_wp2_with (first
      | (go_at_call 110; refine (c110 _ _ _ hs2).mono ?_; rintro e w' ⟨rfl,rfl⟩))
    go_ret
    exact ⟨⟨_,rfl,rfl⟩,rfl⟩
  | some e =>
    obtain ⟨hlen,hed⟩:=ed2 ⟨e,he⟩
    rw [he] at hs2
    unfold edV at hs2
    obtain ⟨v,hv⟩:∃ v,s.eg[c]? = some v:=⟨_,List.getElem?_eq_getElem (by omega)⟩
    have hcell:w.cell? ⟨e,c,none⟩=some v:=by rw [(h3 e he).1]; exact hv
    have hE:=hed c v hv
    have hk128:c<128:=by omega
    clear h1 h2 h3 ed1 ed2 H hm hed
    go_enter Tryz.func75,Tryz.ntmps75
    go_wp2_with (first
      | (go_at_call 110; refine (c110 _ _ _ hs2).mono ?_; rintro e w' ⟨rfl,rfl⟩)
      | (go_at_call 111; refine (c111 hs2 hk128 hcell).mono ?_; rintro e w' ⟨rfl,rfl⟩))
    go_ret
    exact ⟨⟨_,rfl,hE⟩,rfl⟩
def DM.upd (m:DM) (k:Nat) (s:SM):DM := { m with ms:=m.ms.set k s }
theorem DfaL.upd {k:Nat} {s':SM} (hk:m.ms[k]? = some s) (hst:StoP (m.upd k s')=StoP m) (H:St B w0 (SP kd bk xf pf s'::stars ((m.ms.map (SP kd bk xf pf)).eraseIdx k)::pts d 159 (dfaC ats dec m)::Osl m.av 157 1 m.aq.length (m.aq.map fun q=>bp q.1)::StoP m::stars (m.xs.map (SP kd bk xf pf))::stars (m.er.map ErP)::r) w) :
    St B w0 (DfaL kd bk xf pf d ats dec (m.upd k s')++r) w:=by
  have H1:=H.putMap (List.getElem?_eq_some_iff.1 hk).1
  have e:DfaL kd bk xf pf d ats dec (m.upd k s')=[pts d 159 (dfaC ats dec m),Osl m.av 157 1 m.aq.length (m.aq.map fun q=>bp q.1),StoP m,stars ((m.ms.set k s').map (SP kd bk xf pf)),stars (m.xs.map (SP kd bk xf pf)),stars (m.er.map ErP)]:=by
    rw [← hst]
    rfl
  rw [e]
  exact ((H1.pick 3).pick 3).pick 3
theorem StoP_upd {k:Nat} {s':SM} (hlt:k<m.ms.length):StoP (m.upd k s')=StoP m:=by
  unfold StoP DM.upd
  simp only [List.length_set]
theorem edge_set {k c e p:Nat} (hk:m.ms[k]? = some s) (he:s.eb=some e) (H:St B w0 (DfaL kd bk xf pf d ats dec m++r) w) :
    St B w0 (DfaL kd bk xf pf d ats dec (m.upd k { s with eg:=s.eg.set c (bp p) })++r) (w.setCell ⟨e,c,none⟩ (bp p)):=by
  have hlt:=(List.getElem?_eq_some_iff.1 hk).1
  unfold DfaL at H
  have H1:=SP.parts (St.takeMap (H.pick 3) hk)
  have H2:=H1.pick 2
  unfold EdP at H2
  rw [he] at H2
  have H3:=H2.setCell (off:=c) (bp p)
  have eE:EdP { s with eg:=s.eg.set c (bp p) } = pts e 157 (s.eg.set c (bp p)):=by unfold EdP; simp only [he]
  have H4:=(H3.pick 2).pick 2
  rw [← eE] at H4
  have H5:=SP.whole (kd:=kd) (bk:=bk) (xf:=xf) (pf:=pf) (s := { s with eg:=s.eg.set c (bp p) }) H4
  exact DfaL.upd hk (StoP_upd hlt) H5
theorem edge_new {k c p:Nat} (hk:m.ms[k]? = some s) (he:s.eb=none) (hc:c<128) (H:St B w0 (DfaL kd bk xf pf d ats dec m++r) w) :
    (w.alloc (ob 157 (List.replicate 128 (.pointer none)))).cell? ⟨s.sb,2,none⟩=some (.slice none 0 0)∧(w.alloc (ob 157 (List.replicate 128 (.pointer none)))).frozen? ⟨s.sb,2,none⟩=false ∧
    ((w.alloc (ob 157 (List.replicate 128 (.pointer none)))).setCell ⟨s.sb,2,none⟩ (.slice (some ⟨w.heap.size,0,none⟩) 128 128)).cell? ⟨s.sb,2,none⟩=some (.slice (some ⟨w.heap.size,0,none⟩) 128 128) ∧
    ((w.alloc (ob 157 (List.replicate 128 (.pointer none)))).setCell ⟨s.sb,2,none⟩ (.slice (some ⟨w.heap.size,0,none⟩) 128 128)).cell? ⟨w.heap.size,c,none⟩=some (.pointer none) ∧
    ((w.alloc (ob 157 (List.replicate 128 (.pointer none)))).setCell ⟨s.sb,2,none⟩ (.slice (some ⟨w.heap.size,0,none⟩) 128 128)).frozen? ⟨w.heap.size,c,none⟩=false ∧
    St B w0 (DfaL kd bk xf pf d ats dec (m.upd k { s with eb:=some w.heap.size,eg:=(List.replicate 128 (.pointer none)).set c (bp p) })++r)
      (((w.alloc (ob 157 (List.replicate 128 (.pointer none)))).setCell ⟨s.sb,2,none⟩ (.slice (some ⟨w.heap.size,0,none⟩) 128 128)).setCell ⟨w.heap.size,c,none⟩ (bp p)):=by
  have hlt:=(List.getElem?_eq_some_iff.1 hk).1
  have H0:=H.alloc (ob 157 (List.replicate 128 (.pointer none)))
  unfold DfaL at H0
  have H1:=SP.parts (St.takeMap (H0.pick 4) hk)
  have c1:=(H1.pick 1).cells
  have H2:=(H1.pick 1).setCell (off:=2) (.slice (some ⟨w.heap.size,0,none⟩) 128 128)
  have c2:=H2.cells
  have H3:=H2.pick 4
  have c3:=St.cells (T:=157) (cs:=List.replicate 128 (.pointer none)) H3
  have H4:=St.setCell (T:=157) (cs:=List.replicate 128 (.pointer none)) (off:=c) H3 (bp p)
  have H5:=((H4.pick 3).drop.pick 1).pick 2
  have eE:EdP { s with eb:=some w.heap.size,eg:=(List.replicate 128 (.pointer none)).set c (bp p) } = pts w.heap.size 157 ((List.replicate 128 (.pointer none)).set c (bp p)):=rfl
  have H6:=SP.whole (kd:=kd) (bk:=bk) (xf:=xf) (pf:=pf) (s := { s with eb:=some w.heap.size,eg:=(List.replicate 128 (.pointer none)).set c (bp p) }) H5
  refine ⟨?_,c1.2 2,c2.1 2,?_,c3.2 c,DfaL.upd hk (StoP_upd hlt) H6⟩
  · have:=c1.1 2
    unfold SM.cells at this
    rw [he] at this
    exact this
  · rw [c3.1,List.getElem?_replicate,if_pos hc]
end Go.Proofs.YtbcngfgemjdllaaGreatDoor
end
section
namespace Go.Proofs.YtbcngfgemjdllaaGreatDoor
open Go.RowKit Go.Own
variable {N A:Nat} {s s':SM} {m:DM} {D:Lx.DS} {stop:Nat→Bool} {kindOf:Nat→Int}
structure Alike (s s':SM):Prop where
  sb:s'.sb=s.sb
  b:s'.b=s.b
  L:s'.L=s.L
  A:s'.A=s.A
  num:s'.num=s.num
  ro:s'.ro=s.ro
  acc:s'.acc=s.acc
  pred:s'.pred=s.pred
theorem map_set_same {α : Type} {f:SM → α} {ms:List SM} {k:Nat} (hk:ms[k]? = some s) (h:f s'=f s):(ms.set k s').map f=ms.map f:=by
  rw [List.map_set]
  apply List.ext_getElem?
  intro j
  rw [List.getElem?_set]
  split
  · rename_i e; subst e
    have hlt:=(List.getElem?_eq_some_iff.1 hk).1
    rw [if_pos (by simpa using hlt),List.getElem?_map,hk,h]; rfl
  · rfl
theorem get_set {ms:List SM} {k j:Nat} {x:SM} (hk:ms[k]? = some s) (h:(ms.set k s')[j]? = some x):(j=k∧x=s')∨(j≠k∧ms[j]? = some x):=by
  rw [List.getElem?_set] at h
  split at h
  · rename_i e; subst e
    simp at h
    exact .inl ⟨rfl,h.2.symm⟩
  · rename_i e; exact .inr ⟨fun e'=>e e'.symm,h⟩
theorem mem_set_of {ms:List SM} {k:Nat} {x:SM} (hk:ms[k]? = some s) (ha:Alike s s') (h:x ∈ ms.set k s'):∃ y ∈ ms,Alike y x:=by
  obtain ⟨j,hj⟩:=List.mem_iff_getElem?.1 h
  rcases get_set hk hj with ⟨_,rfl⟩ | ⟨_,hj⟩
  · exact ⟨s,List.mem_of_getElem? hk,ha⟩
  · exact ⟨x,List.mem_of_getElem? hj,rfl,rfl,rfl,rfl,rfl,rfl,rfl,rfl⟩
theorem get_to {ms:List SM} {k j:Nat} {x:SM} (hk:ms[k]? = some s) (ha:Alike s s') (h:ms[j]? = some x):∃ y,(ms.set k s')[j]? = some y∧Alike x y:=by
  rw [List.getElem?_set]
  by_cases e:k=j
  · subst e
    rw [hk] at h
    cases h
    rw [if_pos rfl,if_pos (List.getElem?_eq_some_iff.1 hk).1]
    exact ⟨s',rfl,ha⟩
  · rw [if_neg e]
    exact ⟨x,h,rfl,rfl,rfl,rfl,rfl,rfl,rfl,rfl⟩
theorem DMok.setE {k c p:Nat} {e:Nat} {base:List Value} {r':Option Nat} (hm:DMok N A stop kindOf m D) (hk:m.ms[k]? = some s) (hlen:base.length=128) (hb:∀ (c':Nat) (v:Value),base[c']? = some v→EdIs m v (D.edges k c')) (hE:EdIs m (bp p) (some r')) :
    DMok N A stop kindOf (m.upd k { s with eb:=some e,eg:=base.set c (bp p) }) (D.setE k c r'):=by
  have ha:Alike s { s with eb:=some e,eg:=base.set c (bp p) } := ⟨rfl,rfl,rfl,rfl,rfl,rfl,rfl,rfl⟩
  generalize hs' : { s with eb:=some e,eg:=base.set c (bp p) } = s' at ha
  have hEd:∀ v o,EdIs m v o→EdIs (m.upd k s') v o:=fun v o h=>h.grow (fun j x hx=>by
    obtain ⟨y,h1,h2⟩:=get_to hk ha hx
    exact ⟨y,h1,h2.sb⟩) fun _ h=>h
  refine ⟨⟨?_,?_,?_,hm.bkn,?_,?_⟩,?_,?_,?_,?_,?_,?_,?_⟩
  · rw [show (D.setE k c r').sts=D.sts from rfl,hm.sts]
    exact (map_set_same hk ha.L).symm
  · intro q hq
    rw [hm.bk q hq]
    have e1:∀ l:List SM,(l.filter fun s=>hS s.L == q.h).map SM.sb=((l.map fun s=>(s.L,s.sb)).filter fun x=>hS x.1 == q.h).map (·.2):=by
      intro l
      rw [List.filter_map,List.map_map]
      rfl
    rw [e1,e1,show (m.upd k s').ms=m.ms.set k s' from rfl,map_set_same (f:=fun s:SM=>(s.L,s.sb)) hk (by simp [ha.L,ha.sb])]
  · intro x hx
    obtain ⟨y,hy,hya⟩:=mem_set_of hk ha hx
    obtain ⟨q,h1,h2⟩:=hm.bkh y hy
    exact ⟨q,h1,by rw [hya.L]; exact h2⟩
  · intro h
    have:=(hm.st h).1
    rw [this] at hk
    simp at hk
  · intro x hx
    rcases hx with hx | hx
    · obtain ⟨y,hy,hya⟩:=mem_set_of hk ha hx
      rw [hya.L,hya.A]
      exact hm.okL y (.inl hy)
    · exact hm.okL x (.inr hx)
  · exact hm.asked
  · intro q hq
    obtain ⟨t,h1,h2,h3,h4⟩:=hm.askm q hq
    rcases h1 with h1 | h1
    · obtain ⟨j,hj⟩:=List.mem_iff_getElem?.1 h1
      obtain ⟨y,hy,hya⟩:=get_to hk ha hj
      exact ⟨y,.inl (List.mem_of_getElem? hy),by rw [hya.sb]; exact h2,by rw [hya.L]; exact h3,by rw [hya.A]; exact h4⟩
    · exact ⟨t,.inr h1,h2,h3,h4⟩
  · intro j x hx
    rcases get_set hk hx with ⟨rfl,rfl⟩ | ⟨_,hx⟩
    · rw [ha.num,ha.ro]; exact hm.num _ s hk
    · exact hm.num j x hx
  · have h0:=hm.s0
    show match D.s0 with
      | none=>m.s0=none
      | some k=>∃ s,(m.upd _ s').ms[k]? = some s∧m.s0=some s.sb
    cases hd:D.s0 with
    | none=>rw [hd] at h0; exact h0
    | some k0 =>
      rw [hd] at h0
      obtain ⟨x,h1,h2⟩:=h0
      obtain ⟨y,h3,h4⟩:=get_to hk ha h1
      exact ⟨y,h3,by rw [h4.sb]; exact h2⟩
  · intro j c' hj
    have hlt:=(List.getElem?_eq_some_iff.1 hk).1
    simp only [DM.upd,List.length_set] at hj
    simp only [Lx.DS.setE]
    rw [if_neg (by omega)]
    exact hm.edk j c' hj
  · intro x hx
    obtain ⟨y,hy,hya⟩:=mem_set_of hk ha hx
    rw [hya.acc,hya.L,hya.pred]
    exact hm.acc y hy
  · intro j x hx
    rcases get_set hk hx with ⟨rfl,rfl⟩ | ⟨hne,hx⟩
    · rw [← hs']
      refine ⟨fun h=>(by cases h),fun _=>⟨by simp [hlen],fun c' v hv => ?_⟩⟩
      simp only at hv
      rw [List.getElem?_set] at hv
      simp only [Lx.DS.setE,true_and]
      split at hv
      · rename_i e'
        subst e'
        simp at hv
        rw [if_pos rfl,← hv.2]
        rw [hs']
        exact hEd _ _ hE
      · rename_i e'
        rw [if_neg fun h=>e' h.symm,hs']
        exact hEd _ _ (hb c' v hv)
    · obtain ⟨h1,h2⟩:=hm.ed j x hx
      refine ⟨fun h c' => ?_,fun h=>⟨(h2 h).1,fun c' v hv => ?_⟩⟩
      · simp only [Lx.DS.setE]
        rw [if_neg fun h=>hne h.1]
        exact h1 h c'
      · simp only [Lx.DS.setE]
        rw [if_neg fun h=>hne h.1]
        exact hEd _ _ ((h2 h).2 c' v hv)
end Go.Proofs.YtbcngfgemjdllaaGreatDoor
end
section
namespace Go.Proofs.YtbcngfgemjdllaaGreatDoor
open Go.RowKit Go.Own
variable {kd bk xf pf ru:Nat→Nat} {out:Nat→List Lx.Tr} {kindOf:Nat→Int} {stop:Nat→Bool} {B N A at_ nr:Nat} {w0 w:World} {r:List HP} {X:HP} {m:DM} {D:Lx.DS} {s:SM} {d:Nat} {ats:Value} {dec:Int}
theorem made128:madeCells (Value.pointer none).cells 128=(List.replicate 128 (Value.pointer none)).toArray:=by kernel_rfl
@[go_sem] theorem run_make128 (w:World):(Instr.makeSlice 155 (.int .i64 128) (.int .i64 128)).run Tryz.prog w=.ok (.slice (some ⟨w.heap.size,0,none⟩) 128 128) (w.alloc (ob 157 (List.replicate 128 (.pointer none)))):=by
  obtain ⟨i,h1,h2,h3,h4⟩:=sl_inf (P:=Tryz.prog) (e:=157) (z:=.pointer none) (sz:=1) (by_:=8) (by kernel_rfl)
  have:=run_make w (P:=Tryz.prog) 155 157 i (.pointer none) (by kernel_rfl) h1 h2 .i64 .i64 128 128 (by decide) (by decide) (by rw [h4]; decide) (by decide)
  rw [this,h3]
  simp only [ob,← made128]
  rfl
def EdgePost (kd bk xf pf:Nat→Nat) (B N A:Nat) (w0:World) (r:List HP) (m:DM) (stop:Nat→Bool) (kindOf:Nat→Int) (d:Nat) (ats:Value) (dec:Int) (D:Lx.DS) (w':World):Prop :=
  ∃ m',DMok N A stop kindOf m' D∧St B w0 (DfaL kd bk xf pf d ats dec m'++r) w'∧m'.er=m.er∧(∀ (j:Nat) (x:SM),m.ms[j]? = some x→∃ y,m'.ms[j]? = some y∧Alike x y)
theorem base_new {k:Nat} (hm:DMok N A stop kindOf m D) (hk:m.ms[k]? = some s) (he:s.eb=none):∀ (c':Nat) (v:Value),(List.replicate 128 (Value.pointer none))[c']? = some v→EdIs m v (D.edges k c'):=by
  intro c' v hv
  rw [((hm.ed k s hk).1 he c')]
  rw [List.getElem?_replicate] at hv
  split at hv
  · cases hv; rfl
  · cases hv
theorem edge_post {k c p e:Nat} {base:List Value} {r':Option Nat} (hm:DMok N A stop kindOf m D) (hk:m.ms[k]? = some s) (hlen:base.length=128) (hb:∀ (c':Nat) (v:Value),base[c']? = some v→EdIs m v (D.edges k c')) (hE:EdIs m (bp p) (some r'))
    (H:St B w0 (DfaL kd bk xf pf d ats dec (m.upd k { s with eb:=some e,eg:=base.set c (bp p) })++r) w):EdgePost kd bk xf pf B N A w0 r m stop kindOf d ats dec (D.setE k c r') w :=
  ⟨_,hm.setE (e:=e) hk hlen hb hE,H,rfl,fun _ _ hx=>get_to hk ⟨rfl,rfl,rfl,rfl,rfl,rfl,rfl,rfl⟩ hx⟩
set_option maxRecDepth 100000 in
set_option maxHeartbeats 1000000 in
theorem c113_err {l k c e0:Nat} (hm:DMok N A stop kindOf m D) (hk:m.ms[k]? = some s) (he0:e0 ∈ m.er) (hc:c≤127) (H:St B w0 (DfaL kd bk xf pf d ats dec m++r) w) :
    Calls Tryz.prog 113 #[bp l,bp s.sb,.int .i64 c,bp e0,.pointer none] w fun e w'=>e=.returned (bp e0)∧EdgePost kd bk xf pf B N A w0 r m stop kindOf d ats dec (D.setE k c none) w':=by
  obtain ⟨h1,h2,h3⟩:=DfaL.state hk H
  have hs2:w.cell? ⟨s.sb,2,none⟩=some (edV s.eb):=h1 2
  have hc0 : ¬ (c:Int)<0:=by omega
  have hc1 : ¬ (127:Int)<(c:Int):=by omega
  have hk128:c<128:=by omega
  have hE:EdIs m (bp e0) (some none):=⟨e0,he0,rfl⟩
  cases he:s.eb with
  | none =>
    rw [he] at hs2
    unfold edV at hs2
    obtain ⟨g1,g2,g3,g4,g5,g6⟩:=edge_new (p:=e0) hk he hk128 H
    have HP:=Lib.hid (edge_post (e:=w.heap.size) hm hk (by simp) (base_new hm hk he) hE g6)
    clear h1 h2 h3 g6 H hm
    go_enter Tryz.func113,Tryz.ntmps113
    go_wp2_with (first
      | (go_at_call 110; refine (c110 _ _ _ hs2).mono ?_; rintro e w' ⟨rfl,rfl⟩)
      | (go_at_call 154; refine (c154 g1 g2).mono ?_; rintro e w' ⟨rfl,rfl⟩)
      | (go_at_call 155; refine (c155 g3 hk128 g4 g5).mono ?_; rintro e w' ⟨rfl,rfl⟩))
    go_ret
    exact ⟨rfl,HP.out⟩
  | some e =>
    rw [he] at hs2
    unfold edV at hs2
    obtain ⟨hlen,hed⟩:=(hm.ed k s hk).2 ⟨e,he⟩
    obtain ⟨v,hv⟩:∃ v,s.eg[c]? = some v:=⟨_,List.getElem?_eq_getElem (by omega)⟩
    have hcell:w.cell? ⟨e,c,none⟩=some v:=by rw [(h3 e he).1]; exact hv
    have hfr:=(h3 e he).2 c
    have g6:=edge_set (c:=c) (p:=e0) hk he H
    have e1 : { s with eg:=s.eg.set c (bp e0) } = { s with eb:=some e,eg:=s.eg.set c (bp e0) } := by rw [← he]
    rw [e1] at g6
    have HP:=Lib.hid (edge_post (e:=e) hm hk hlen hed hE g6)
    clear h1 h2 h3 g6 H hm hed e1
    go_enter Tryz.func113,Tryz.ntmps113
    go_wp2_with (first
      | (go_at_call 110; refine (c110 _ _ _ hs2).mono ?_; rintro e w' ⟨rfl,rfl⟩)
      | (go_at_call 155; refine (c155 hs2 hk128 hcell hfr).mono ?_; rintro e w' ⟨rfl,rfl⟩))
    go_ret
    exact ⟨rfl,HP.out⟩
end Go.Proofs.YtbcngfgemjdllaaGreatDoor
end
section
namespace Go.Proofs.YtbcngfgemjdllaaGreatDoor
open Go.RowKit Go.Own
variable {kd bk xf pf ru:Nat→Nat} {out:Nat→List Lx.Tr} {kindOf:Nat→Int} {stop:Nat→Bool} {B N A at_ nr:Nat} {w0 w:World} {r:List HP} {X:HP} {m:DM} {D:Lx.DS} {s:SM} {d:Nat} {ats:Value} {dec:Int}
theorem c113_neg {l sb p:Nat} {c:Int} (hc:c<0):Calls Tryz.prog 113 #[bp l,bp sb,.int .i64 c,bp p,.pointer none] w fun e w'=>e=.returned (bp p)∧w=w':=by
  go_enter Tryz.func113,Tryz.ntmps113
  go_wp2_with fail
  go_ret
  exact ⟨rfl,rfl⟩
theorem SetH.c7 {b jb mb cmb:Nat} {S:Lx.CS} (H:SetH kd bk xf pf B w0 b jb mb cmb S r w):w.cell? ⟨b,7,none⟩=some (.bool false)∧w.frozen? ⟨b,7,none⟩=false∧w.setCell ⟨b,7,none⟩ (.bool false)=w∧∃ sa cap,w.cell? ⟨b,3,none⟩=some (.slice sa S.cf.length cap):=by
  obtain ⟨av,cv,ms,hk,H⟩:=H.ex
  have hc:St B w0 (pts b 221 (setL av cv (-1) jb false)::_) w:=H
  obtain ⟨a,c,e⟩:=(H.pick 2).ownVal
  have hl:ms.length=S.cf.length:=by rw [← hk]; simp
  refine ⟨hc.cells.1 7,hc.cells.2 7,setCell_same hc.heap.2 rfl,a,c,?_⟩
  rw [hc.cells.1 3,← hl,← e]
  rfl
def StepPost (kd bk xf pf:Nat→Nat) (B N A:Nat) (w0:World) (r:List HP) (m:DM) (stop:Nat→Bool) (kindOf:Nat→Int) (l d:Nat) (σ : Sim) (dps:List Value) (ats:Value) (dec:Int) (D:Lx.DS) (k2:Nat) (p:Nat) (w':World):Prop :=
  ∃ m' x,DMok N A stop kindOf m' D∧m'.ms[k2]? = some x∧x.sb=p∧St B w0 (SimP l σ dps::(DfaL kd bk xf pf d ats dec m'++r)) w'∧(∀ (j:Nat) (x:SM),m.ms[j]? = some x→∃ y,m'.ms[j]? = some y∧Alike x y)
theorem step_post {m1:DM} {l k c e k2:Nat} {σ : Sim} {dps:List Value} {base:List Value} {x:SM} (hm:DMok N A stop kindOf m1 D) (hk:m1.ms[k]? = some s) (hx:m1.ms[k2]? = some x) (hlen:base.length=128) (hb:∀ (c':Nat) (v:Value),base[c']? = some v→EdIs m1 v (D.edges k c'))
    (hg:∀ (j:Nat) (y:SM),m.ms[j]? = some y→m1.ms[j]? = some y)
    (H:St B w0 (DfaL kd bk xf pf d ats dec (m1.upd k { s with eb:=some e,eg:=base.set c (bp x.sb) })++(SimP l σ dps::r)) w):StepPost kd bk xf pf B N A w0 r m stop kindOf l d σ dps ats dec (D.setE k c (some k2)) k2 x.sb w:=by
  have ha:Alike s { s with eb:=some e,eg:=base.set c (bp x.sb) } := ⟨rfl,rfl,rfl,rfl,rfl,rfl,rfl,rfl⟩
  obtain ⟨y,h1,h2⟩:=get_to hk ha hx
  exact ⟨_,y,hm.setE (e:=e) hk hlen hb ⟨x,hx,rfl⟩,h1,h2.sb,DfaL.front1 H,fun j z hz=>get_to hk ha (hg j z hz)⟩
set_option maxRecDepth 100000 in
set_option maxHeartbeats 1000000 in
theorem c113_set (hR:NetR kd bk out ru kindOf B w0 N at_ nr) (hst:∀ n,n<N→stop n=(kd n == 7)) (hcx:CtxX xf pf B w0 X A) (hX:X ∈ r) (hm:DMok N A stop kindOf m D) {l b jb mb cmb k c:Nat} {σ : Sim} {dps:List Value} (hσ : σ.at_=at_) (hnd:0 < σ.nd) (hd:dps[0]? = some (bp d)) {S:Lx.CS}
    (hS1:S.cf≠[]) (hS2:∀ x ∈ S.cf,x.1<N∧x.2<A) (hS3:∀ x ∈ S.ask,x.1<N∧x.2<A) (hl1:S.cf.length<1099511627776) (hl2':S.ask.length<1099511627776) (hl3:m.aq.length+1<1099511627776) (hl4:m.ms.length<1099511627776)
    (hk:m.ms[k]? = some s) (hc:c≤127)
    (H:SetH kd bk xf pf B w0 b jb mb cmb S (SimP l σ dps::(DfaL kd bk xf pf d ats dec m++r)) w) :
    Calls Tryz.prog 113 #[bp l,bp s.sb,.int .i64 c,.pointer none,bp b] w fun e w'=>∃ p,e=.returned (bp p)∧StepPost kd bk xf pf B N A w0 r m stop kindOf l d σ dps ats dec ((D.addS hS S).1.setE k c (some (D.addS hS S).2)) (D.addS hS S).2 p w':=by
  obtain ⟨b7,b7f,b7s,_⟩:=SetH.c7 H
  have h73:=c73 hR hst hcx hX hm hσ hnd hd true hS1 hS2 hS3 hl1 hl2' hl3 hl4 H
  have H73:=Lib.hid h73
  have hc0 : ¬ (c:Int)<0:=by omega
  have hc1 : ¬ (127:Int)<(c:Int):=by omega
  have hk128:c<128:=by omega
  clear hR hst hcx hm hS2 hS3 H h73 hd
  cases he:s.eb with
  | none =>
    go_enter Tryz.func113,Tryz.ntmps113
    go_wp2_with (first
      | (go_at_call 73; refine H73.out.mono ?_; rintro e w1 ⟨m1,x,hx,rfl,hm1,H1,hg⟩
         have hk1:=hg k s hk
         have H1':=DfaL.back1 H1
         have hs2:w1.cell? ⟨s.sb,2,none⟩=some (.slice none 0 0):=by rw [(DfaL.state hk1 H1').1 2]; unfold SM.cells; rw [he]; rfl
         obtain ⟨g1,g2,g3,g4,g5,g6⟩:=edge_new (p:=x.sb) hk1 he hk128 H1'
         have HP:=Lib.hid (step_post (e:=w1.heap.size) hm1 hk1 hx (by simp) (base_new hm1 hk1 he) hg g6)
         clear H1 H1' g6 hm1)
      | (go_at_call 110; refine (c110 _ _ _ hs2).mono ?_; rintro e w' ⟨rfl,rfl⟩)
      | (go_at_call 154; refine (c154 g1 g2).mono ?_; rintro e w' ⟨rfl,rfl⟩)
      | (go_at_call 155; refine (c155 g3 hk128 g4 g5).mono ?_; rintro e w' ⟨rfl,rfl⟩))
    go_ret
    exact ⟨_,rfl,HP.out⟩
  | some e =>
    have e1:∀ p,{ s with eg:=s.eg.set c (bp p) } = { s with eb:=some e,eg:=s.eg.set c (bp p) } := fun p=>by rw [← he]
    go_enter Tryz.func113,Tryz.ntmps113
    go_wp2_with (first
      | (go_at_call 73; refine H73.out.mono ?_; rintro e' w1 ⟨m1,x,hx,rfl,hm1,H1,hg⟩
         have hk1:=hg k s hk
         have H1':=DfaL.back1 H1
         obtain ⟨q1,q2,q3⟩:=DfaL.state hk1 H1'
         have hs2:w1.cell? ⟨s.sb,2,none⟩=some (.slice (some ⟨e,0,none⟩) 128 128):=by rw [q1 2]; unfold SM.cells; rw [he]; rfl
         obtain ⟨hlen,hed⟩:=(hm1.ed k s hk1).2 ⟨e,he⟩
         obtain ⟨v,hv⟩:∃ v,s.eg[c]? = some v:=⟨_,List.getElem?_eq_getElem (by omega)⟩
         have hcell:w1.cell? ⟨e,c,none⟩=some v:=by rw [(q3 e he).1]; exact hv
         have hfr:=(q3 e he).2 c
         have g6:=edge_set (c:=c) (p:=x.sb) hk1 he H1'
         rw [e1] at g6
         have HP:=Lib.hid (step_post (e:=e) hm1 hk1 hx hlen hed hg g6)
         clear H1 H1' g6 hm1 q1 q2 q3 hed)
      | (go_at_call 110; refine (c110 _ _ _ hs2).mono ?_; rintro e' w' ⟨rfl,rfl⟩)
      | (go_at_call 155; refine (c155 hs2 hk128 hcell hfr).mono ?_; rintro e' w' ⟨rfl,rfl⟩))
    go_ret
    exact ⟨_,rfl,HP.out⟩
end Go.Proofs.YtbcngfgemjdllaaGreatDoor
end
section
namespace Go.Proofs.YtbcngfgemjdllaaGreatDoor
open Go.RowKit Go.Own
variable {kd bk xf pf ru:Nat→Nat} {out:Nat→List Lx.Tr} {kindOf:Nat→Int} {stop:Nat→Bool} {B N A at_ nr:Nat} {w0 w:World} {r:List HP} {X:HP} {m:DM} {D:Lx.DS} {s:SM} {d:Nat} {ats:Value} {dec:Int}
structure Env (out:Nat→List Lx.Tr) (n N A:Nat) (P:List Lx.Cf→Prop):Prop where
  dep:∀ s,s<N→∀ tr ∈ out s,Lx.Dep out n tr.to
  neg:∀ s,s<N→∀ tr ∈ out s,tr.fits (-1)=false
  len:∀ L,P L→∀ c,(Lx.rch1 out n L c).length<1099511627776
  keep:∀ L,P L→∀ c,P (Lx.adds hN ⟨[],[]⟩ (Lx.rch1 out n L c)).cf
  lt:∀ L,P L→∀ x ∈ L,x.1<N∧x.2<A
  rlt:∀ L,P L→∀ c,∀ x ∈ Lx.rch1 out n L c,x.1<N∧x.2<A
  slen:(Lx.st0 out n).length<1099511627776
  sP:P (Lx.adds hN ⟨[],[]⟩ (Lx.st0 out n)).cf
  sne:(Lx.adds hN ⟨[],[]⟩ (Lx.st0 out n)).cf≠[]
  slt:∀ x ∈ Lx.st0 out n,x.1<N∧x.2<A
  hA:A=(out 0).length+1
theorem SetH.mapR {b jb mb cmb:Nat} {S:Lx.CS} {l1 l2:List HP} (H:SetH kd bk xf pf B w0 b jb mb cmb S (l1++r) w) (f:∀ r',St B w0 (l1++r') w→St B w0 (l2++r') w):SetH kd bk xf pf B w0 b jb mb cmb S (l2++r) w:=by
  obtain ⟨av,cv,ms,hk,H⟩:=H.ex
  refine ⟨av,cv,ms,hk,?_⟩
  have p:∀ (x y z:List HP),(x++(y++z)).Perm (y++(x++z)):=fun x y z=>by
    rw [← List.append_assoc,← List.append_assoc]
    exact List.perm_append_comm.append_right z
  exact (f _ (H.perm (p _ _ _))).perm (p _ _ _)
noncomputable def OpnL (kd bk xf pf:Nat→Nat) (d:Nat) (ats:Value) (dec:Int) (m:DM) (k:Nat) (s:SM) (av cv jp:Value) (ms:List CfM):List HP :=
  [stars (SetW kd bk xf pf s.b s.L s.A s.ro (kHash s.L s.ro) av cv jp ms),pts s.sb 178 s.cells,EdP s,stars ((m.ms.map (SP kd bk xf pf)).eraseIdx k),pts d 159 (dfaC ats dec m),Osl m.av 157 1 m.aq.length (m.aq.map fun q=>bp q.1),StoP m,stars (m.xs.map (SP kd bk xf pf)),stars (m.er.map ErP)]
theorem DfaL.opn {k:Nat} (hk:m.ms[k]? = some s) (H:St B w0 (DfaL kd bk xf pf d ats dec m++r) w):∃ av cv jp ms,ms.map CfM.key=s.L∧St B w0 (OpnL kd bk xf pf d ats dec m k s av cv jp ms++r) w:=by
  unfold DfaL at H
  have H1:=SP.parts (St.takeMap (H.pick 3) hk)
  obtain ⟨av,cv,jp,ms,hkey,H2⟩:=SetP.opn H1
  exact ⟨av,cv,jp,ms,hkey,H2.joins⟩
theorem DfaL.shut {k:Nat} {av cv jp:Value} {ms:List CfM} (hk:m.ms[k]? = some s) (hkey:ms.map CfM.key=s.L) (H:St B w0 (OpnL kd bk xf pf d ats dec m k s av cv jp ms++r) w):St B w0 (DfaL kd bk xf pf d ats dec m++r) w:=by
  unfold OpnL at H
  have H1:=SP.whole (s:=s) (SetP.cls hkey H.splits)
  have H2:=H1.putMap (List.getElem?_eq_some_iff.1 hk).1
  have e:m.ms.set k s=m.ms:=by
    apply List.ext_getElem?
    intro j
    rw [List.getElem?_set]
    split
    · rename_i e; subst e; rw [if_pos (List.getElem?_eq_some_iff.1 hk).1,hk]
    · rfl
  rw [e] at H2
  exact ((H2.pick 3).pick 3).pick 3
theorem SetW.fsx {b cap:Nat} {L Aq:List Lx.Cf} {ro:Bool} {ch:Int} {av jp:Value} {sa:Option Addr} {ms:List CfM} (hkey:ms.map CfM.key=L) (hrow:L≠[]→∃ g,sa=some ⟨g,0,none⟩) :
    FSX kd bk xf pf B w0 (stars (SetW kd bk xf pf b L Aq ro ch av (.slice sa L.length cap) jp ms)) b sa cap (ms.map CfM.cb) L:=by
  have hlen:ms.length=L.length:=by rw [← hkey]; simp
  refine ⟨by simp [hlen],fun l w' H => ?_,fun hne => ?_,fun l w' H i cb x hi hx => ?_⟩
  · have:=H.splits.cells.1 3
    exact this
  · obtain ⟨g,hg⟩:=hrow hne
    refine ⟨g,hg,fun l w' H i cb hi => ?_⟩
    have H2:St B w0 (Osl (.slice sa L.length cap) 222 1 ms.length (ms.map cbP)::_) w':=H.splits.pick 2
    rcases H2.ownCell with ⟨_,h0,_⟩ | ⟨g',cap',e,_,hc,_⟩
    · exact absurd (List.eq_nil_of_length_eq_zero (by omega)) hne
    · have:g'=g:=by rw [hg] at e; injection e with e1; injection e1 with e2; injection e2 with e3; exact e3.symm
      subst this
      refine hc i _ ?_
      rw [List.getElem?_map] at hi ⊢
      cases hm:ms[i]? with
      | none=>rw [hm] at hi; cases hi
      | some q=>rw [hm] at hi; simp at hi; subst hi; rfl
  · rw [List.getElem?_map] at hi
    cases hm:ms[i]? with
    | none=>rw [hm] at hi; cases hi
    | some q =>
      rw [hm] at hi
      simp at hi
      subst hi
      have hxk:x=q.key:=by rw [← hkey,List.getElem?_map,hm] at hx; simpa using hx.symm
      have H3:St B w0 (stars (ms.map (CfP kd bk xf pf))::_) w':=H.splits.pick 3
      obtain ⟨l',H'⟩:=H3.pickMem (List.mem_map_of_mem (f:=CfP kd bk xf pf) (List.mem_of_getElem? hm))
      rw [hxk]
      exact ((H'.split).pick 1).heap.2
theorem DMok.addEr (hm:DMok N A stop kindOf m D) (l:List Nat):DMok N A stop kindOf { m with er:=m.er++l } D :=
  { hm with ed:=fun k s hk=>⟨(hm.ed k s hk).1,fun h=>⟨((hm.ed k s hk).2 h).1,fun c v hv=>(((hm.ed k s hk).2 h).2 c v hv).grow (fun j x hx=>⟨x,hx,rfl⟩) fun e he=>by simp [he]⟩⟩ }
theorem DfaL.addEr {e:Nat} (H:St B w0 (ErP e::(DfaL kd bk xf pf d ats dec m++r)) w):St B w0 (DfaL kd bk xf pf d ats dec { m with er:=m.er++[e] } ++ r) w:=by
  unfold DfaL at H ⊢
  simp only [List.cons_append,List.nil_append] at H ⊢
  have H2:=((H.pick 6).pick 1).pushMap
  exact ((((H2.pick 5).pick 5).pick 5).pick 5).pick 5
theorem ErP.cell {e:Nat} (H:St B w0 (ErP e::r) w):w.cell? ⟨e,0,none⟩=some (.int .i64 2147483647):=by
  obtain ⟨l,H1⟩:=H.ex
  obtain ⟨h1,H2⟩:=H1.pure
  rw [H2.cells.1 0]
  exact h1
theorem DfaL.errCell {e:Nat} (he:e ∈ m.er) (H:St B w0 (DfaL kd bk xf pf d ats dec m++r) w):w.cell? ⟨e,0,none⟩=some (.int .i64 2147483647):=by
  unfold DfaL at H
  obtain ⟨l',H1⟩:=(H.pick 5).pickMem (List.mem_map_of_mem (f:=ErP) he)
  exact ErP.cell H1
end Go.Proofs.YtbcngfgemjdllaaGreatDoor
end
