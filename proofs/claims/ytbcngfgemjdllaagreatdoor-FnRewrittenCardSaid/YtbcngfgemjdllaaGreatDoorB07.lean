/- Part 7: D19, Sl5, D20, Pl4. -/
import Derived.Laws.Cover3
import Derived.Test.YtbcngfgemjdllaaGreatDoorB01
import Derived.Test.YtbcngfgemjdllaaGreatDoorB04
import Derived.Test.YtbcngfgemjdllaaGreatDoorB06
set_option linter.unusedVariables false
set_option linter.unusedSimpArgs false
section
namespace Go.Proofs.YtbcngfgemjdllaaGreatDoor
open Go.RowKit Go.Own
variable {kd bk xf pf:Nat→Nat} {out:Nat→List Lx.Tr} {B N A:Nat} {w0 w:World} {r:List HP} {X D:HP}
theorem FSW.drewN {b cap:Nat} {sa:Option Addr} {cbs:List Nat} {L:List Lx.Cf} (h:FSW kd bk xf pf w b sa cap cbs L) (n:Nat):FSW kd bk xf pf (w.drewN n) b sa cap cbs L :=
  ⟨h.len,h.sl,h.row,fun i cb x h1 h2=>by
    obtain ⟨a1,a2,a3,a4⟩:=h.cfg i cb x h1 h2
    obtain ⟨b1,b2,b3,b4,b5,b6,b7⟩:=a4
    exact ⟨a1,a2,a3,⟨b1,b2,b3,b4,b5,b6,b7⟩⟩⟩
noncomputable def hS (L:List Lx.Cf):Int:=mF (mU 7 (hL L)) 1
theorem c68 {sb b:Nat} {h:Int} {Q:World→Prop} (hc:w.cell? ⟨sb,1,none⟩=some (.pointer (some ⟨b,0,none⟩)))
    (h96:Calls Tryz.prog 96 #[.pointer (some ⟨b,0,none⟩)] w fun e w'=>e=.returned (.int .i64 h)∧Q w') :
    Calls Tryz.prog 68 #[.pointer (some ⟨sb,0,none⟩)] w fun e w'=>e=.returned (.int .i64 (mF (mU 7 h) 1))∧Q w':=by
  go_enter Tryz.func68,Tryz.ntmps68
  go_wp2_with (first
    | (go_at_call 94; refine (c94 _ _).mono ?_; rintro e w' ⟨rfl,rfl⟩)
    | (go_at_call 96; refine h96.mono ?_; rintro e w' ⟨rfl,hQ⟩)
    | (go_at_call 95; refine (c95 _ _ _).mono ?_; rintro e w' ⟨rfl,rfl⟩)
    | (go_at_call 97; refine (c97 _ _ _).mono ?_; rintro e w' ⟨rfl,rfl⟩))
  go_ret
  exact ⟨rfl,hQ⟩
theorem c331 {sb:Nat} {h:Int} {v:Value} {Q:World→Prop} (h68:Calls Tryz.prog 68 #[.pointer (some ⟨sb,0,none⟩)] w fun e w'=>e=.returned (.int .i64 h)∧Q w') :
    Calls Tryz.prog 331 #[v,.pointer (some ⟨sb,0,none⟩)] w fun e w'=>e=.returned (.int .i64 h)∧Q w':=by
  go_enter Tryz.func331,Tryz.ntmps331
  go_wp2_with (first
    | (go_at_call 68; refine h68.mono ?_; rintro e w' ⟨rfl,hQ⟩))
  go_ret
  exact ⟨rfl,hQ⟩
theorem c410_ne {b b' n n' cap cap':Nat} {sa sa':Option Addr} (h:w.cell? ⟨b,3,none⟩=some (.slice sa n cap)) (h':w.cell? ⟨b',3,none⟩=some (.slice sa' n' cap')) (hne:((n:Int) == (n':Int))=false) :
    Calls Tryz.prog 410 #[.pointer (some ⟨b,0,none⟩),.pointer (some ⟨b',0,none⟩)] w fun e w'=>e=.returned (.bool false)∧∃ n,w'=w.drewN n:=by
  go_enter Tryz.func410,Tryz.ntmps410
  go_wp2_with (first | (go_quiet (fail)))
  go_ret
  exact ⟨rfl,_,rfl⟩
def CmpRel (w:World) (L:List Lx.Cf) (i:Value) (wr:World):Prop:=∃ k n:Nat,k≤L.length∧i=.int .i64 k∧wr=w.drewN n
set_option maxRecDepth 100000 in
theorem c410_eq {b b' cap cap':Nat} {sa sa':Option Addr} {cbs cbs':List Nat} {L L':List Lx.Cf} (hF:FSW kd bk xf pf w b sa cap cbs L) (hF':FSW kd bk xf pf w b' sa' cap' cbs' L') (hl:L'.length=L.length) (hLl:L.length<4611686018427387904) :
    Calls Tryz.prog 410 #[.pointer (some ⟨b,0,none⟩),.pointer (some ⟨b',0,none⟩)] w fun e w'=>e=.returned (.bool true)∧∃ n,w'=w.drewN n:=by
  have hsl:=hF.sl
  have hsl':=hF'.sl
  rw [hl] at hsl'
  have HF:=Lib.hid hF
  have HF':=Lib.hid hF'
  clear hF hF'
  have hself:((L.length:Int) != (L.length:Int))=false:=by simp
  go_enter Tryz.func410,Tryz.ntmps410
  go_wp2_with (first | (go_quiet (fail)))
  go_loopw [5] (CmpRel w L) (fun i _=>L.length - (intOf i).toNat)
  case atStart=>exact ⟨0,_,Nat.zero_le _,rfl,rfl⟩
  case round =>
    obtain ⟨k,n,hk,rfl,hwr⟩:=hrel
    have HFr:FSW kd bk xf pf wr b sa cap cbs L:=by rw [hwr]; exact HF.out.drewN n
    have HFr':FSW kd bk xf pf wr b' sa' cap' cbs' L':=by rw [hwr]; exact HF'.out.drewN n
    have hsl:=HFr.sl
    have hsl':=HFr'.sl
    rw [hl] at hsl'
    have Hwr:=Lib.hid hwr
    clear hwr
    by_cases hlt:k<L.length
    · obtain ⟨g,rfl,hrow⟩:=HFr.row (by intro e; rw [e] at hlt; simp at hlt)
      obtain ⟨g',rfl,hrow'⟩:=HFr'.row (by intro e; rw [e] at hl; simp at hl; omega)
      obtain ⟨cb,hcb⟩:∃ cb,cbs[k]? = some cb:=⟨_,List.getElem?_eq_getElem (by rw [HFr.len]; exact hlt)⟩
      obtain ⟨cb',hcb'⟩:∃ cb',cbs'[k]? = some cb':=⟨_,List.getElem?_eq_getElem (by rw [HFr'.len,hl]; exact hlt)⟩
      have hgk:=hrow _ _ hcb
      have hgk':=hrow' _ _ hcb'
      have hcf:=(HFr.cfg _ _ _ hcb (List.getElem?_eq_getElem hlt)).ob
      have hcf':=(HFr'.cfg _ _ _ hcb' (List.getElem?_eq_getElem (by omega))).ob
      have h311:=fun n=>c311 (w:=wr.drewN n) hcf hcf'
      have hw:=wrap_succ hlt hLl
      have hk0:(0:Int)≤(k:Int):=Int.natCast_nonneg _
      have hk1:(k:Int)<(L.length:Int):=by omega
      have H311:=Lib.hid h311
      have Hw:=Lib.hid hw
      clear hrow hrow' hcb hcb' hcf hcf' h311 hw HFr HFr'
      go_wp2_with (first
        | (go_quiet (first | (go_at_call 311; exact Calls.quiet_of (H311.out _)))))
      first | rw [Hw.out] | rw [show ((k:Int)+1)=((k+1:Nat):Int) from by omega]
      exact ⟨⟨k+1,_,hlt,rfl,by rw [Hwr.out,World.drewN_drewN]⟩,meas_lt hlt⟩
    · have hk1 : ¬ (k:Int)<(L.length:Int):=by omega
      go_wp2_with fail
      go_ret
      exact ⟨rfl,_,Hwr.out⟩
def setK (av cv jp:Value) (ch:Int) (ro:Bool):List Value:=[av,.int .i64 ch,jp,cv,.pointer none,.bool false,.bool false,.bool false,.bool ro,.int .i64 0]
set_option maxRecDepth 100000 in
set_option maxHeartbeats 1000000 in
theorem c408 {b b' n n' cap cap' g:Nat} {sa':Option Addr} {av jp av' jp':Value} {ch ch':Int} {ro ro' v:Bool} (h:w.heap[b]? = some (ob 221 (setK av (.slice (some ⟨g,0,none⟩) n cap) jp ch ro))) (h':w.heap[b']? = some (ob 221 (setK av' (.slice sa' n' cap') jp' ch' ro'))) (hne:b≠b')
    (h410:∀ n,Calls Tryz.prog 410 #[.pointer (some ⟨b,0,none⟩),.pointer (some ⟨b',0,none⟩)] (w.drewN n) fun e w'=>e=.returned (.bool v)∧∃ m,w'=(w.drewN n).drewN m) :
    Calls Tryz.prog 408 #[.pointer (some ⟨b,0,none⟩),.iface 173 (.pointer (some ⟨b',0,none⟩))] w fun e w'=>e=.returned (.bool v)∧∃ n,w'=w.drewN n:=by
  have hp:=run_eql_iface_ptr (P:=Tryz.prog) (w:=w) (ti:=629) (t:=173) (e:=221) (n:=9) (by kernel_rfl) (by kernel_rfl) (by kernel_rfl) (by kernel_rfl) h h'
  have hbf:(b == b')=false:=by simpa using hne
  rw [hbf] at hp
  have hc:=(cells_at h).1
  have hc':=(cells_at h').1
  unfold setK at hc hc'
  have c3:=hc 3
  have c4:=hc 4
  have c5:=hc 5
  have c6:=hc 6
  have c7:=hc 7
  have c9:=hc 9
  have d3:=hc' 3
  have d4:=hc' 4
  have d5:=hc' 5
  have d6:=hc' 6
  have d7:=hc' 7
  have d9:=hc' 9
  simp only [List.getElem?_cons_zero,List.getElem?_cons_succ] at c3 c4 c5 c6 c7 c9 d3 d4 d5 d6 d7 d9
  clear hc hc' h h'
  go_enter Tryz.func408,Tryz.ntmps408
  go_wp2_with (first
    | (go_quiet (first | (go_at_call 410; exact Calls.quiet_of (h410 _)))))
  go_ret
  exact ⟨rfl,_,rfl⟩
theorem c407 {sb sb' b b':Nat} {l l':List Value} {v:Bool} (h:w.heap[sb]? = some (ob 178 l)) (h':w.heap[sb']? = some (ob 178 l')) (hb:l[1]? = some (.pointer (some ⟨b,0,none⟩))) (hb':l'[1]? = some (.pointer (some ⟨b',0,none⟩))) (hne:sb≠sb')
    (h408:∀ n,Calls Tryz.prog 408 #[.pointer (some ⟨b,0,none⟩),.iface 173 (.pointer (some ⟨b',0,none⟩))] (w.drewN n) fun e w'=>e=.returned (.bool v)∧∃ m,w'=(w.drewN n).drewN m) :
    Calls Tryz.prog 407 #[.pointer (some ⟨sb,0,none⟩),.iface 157 (.pointer (some ⟨sb',0,none⟩))] w fun e w'=>e=.returned (.bool v)∧∃ n,w'=w.drewN n:=by
  have hp:=run_eql_iface_ptr (P:=Tryz.prog) (w:=w) (ti:=623) (t:=157) (e:=178) (n:=7) (by kernel_rfl) (by kernel_rfl) (by kernel_rfl) (by kernel_rfl) h h'
  have hbf:(sb == sb')=false:=by simpa using hne
  rw [hbf] at hp
  have c1:=(cells_at h).1 1
  have d1:=(cells_at h').1 1
  rw [hb] at c1
  rw [hb'] at d1
  clear h h'
  go_enter Tryz.func407,Tryz.ntmps407
  go_wp2_with (first
    | (go_quiet (first | (go_at_call 408; exact Calls.quiet_of (h408 _)))))
  go_ret
  exact ⟨rfl,_,rfl⟩
theorem c330 {sb sb':Nat} {v:Bool} {x:Value} (h407:Calls Tryz.prog 407 #[.pointer (some ⟨sb,0,none⟩),.iface 157 (.pointer (some ⟨sb',0,none⟩))] w fun e w'=>e=.returned (.bool v)∧∃ n,w'=w.drewN n) :
    Calls Tryz.prog 330 #[x,.pointer (some ⟨sb,0,none⟩),.pointer (some ⟨sb',0,none⟩)] w fun e w'=>e=.returned (.bool v)∧∃ n,w'=w.drewN n:=by
  go_enter Tryz.func330,Tryz.ntmps330
  go_wp2_with (first
    | (go_at_call 407; refine h407.mono ?_; rintro e w' ⟨rfl,hw⟩))
  go_ret
  exact ⟨rfl,hw⟩
end Go.Proofs.YtbcngfgemjdllaaGreatDoor
end
section
namespace Go.Own
theorem perm_eraseIdx {α : Type} : ∀ (l:List α) (i:Nat) (x : α),l[i]? = some x→l.Perm (x::l.eraseIdx i)
  | [],i,x,h=>by simp at h
  | a::l,0,x,h=>by simp at h; subst h; simp
  | a::l,i+1,x,h=>by
    simp at h
    rw [List.eraseIdx_cons_succ]
    exact ((perm_eraseIdx l i x h).cons a).trans (List.Perm.swap _ _ _)
theorem perm_set {α : Type} : ∀ (l:List α) (i:Nat) (y : α),i<l.length→(l.set i y).Perm (y::l.eraseIdx i)
  | [],i,y,h=>by simp at h
  | a::l,0,y,h=>by simp
  | a::l,i+1,y,h=>by
    rw [List.eraseIdx_cons_succ,List.set_cons_succ]
    exact ((perm_set l i y (by simpa using h)).cons a).trans (List.Perm.swap _ _ _)
section
variable {B:Nat} {w0 w:World} {r:List HP} {l:List HP} {x y:HP} {i:Nat}
theorem St.takeIdx (H:St B w0 (stars l::r) w) (hi:l[i]? = some x):St B w0 (x::stars (l.eraseIdx i)::r) w:=by
  have H1:St B w0 (l.eraseIdx i++(x::r)) w:=by
    refine H.splits.perm ?_
    exact ((perm_eraseIdx l i x hi).append_right r).trans List.perm_middle.symm
  exact H1.joins.pick 1
theorem St.putIdx (H:St B w0 (y::stars (l.eraseIdx i)::r) w) (hi:i<l.length):St B w0 (stars (l.set i y)::r) w:=by
  have H1:St B w0 (l.set i y++r) w:=by
    refine ((H.pick 1).splits).perm ?_
    exact (List.perm_middle (l₁:=l.eraseIdx i) (a:=y) (l₂:=r)).trans ((perm_set l i y hi).symm.append_right r)
  exact H1.joins
theorem St.takeMap {α : Type} {f : α → HP} {L:List α} {a : α} (H:St B w0 (stars (L.map f)::r) w) (hi:L[i]? = some a):St B w0 (f a::stars ((L.map f).eraseIdx i)::r) w :=
  H.takeIdx (by rw [List.getElem?_map,hi]; rfl)
theorem St.putMap {α : Type} {f : α → HP} {L:List α} {a : α} (H:St B w0 (f a::stars ((L.map f).eraseIdx i)::r) w) (hi:i<L.length):St B w0 (stars ((L.set i a).map f)::r) w:=by
  rw [List.map_set]
  exact H.putIdx (by rw [List.length_map]; exact hi)
theorem St.pushMap {α : Type} {f : α → HP} {L:List α} {a : α} (H:St B w0 (f a::stars (L.map f)::r) w):St B w0 (stars ((L++[a]).map f)::r) w:=by
  rw [List.map_append]
  have H2:=(H.pick 1).splits.perm (r:=(L.map f++[f a])++r) (by simp)
  exact H2.joins
theorem St.nilStars (H:St B w0 r w):St B w0 (stars []::r) w:=(show St B w0 ([]++r) w from H).joins
end
end Go.Own
end
section
namespace Go.Proofs.YtbcngfgemjdllaaGreatDoor
open Go.RowKit Go.Own
structure SM where
  sb:Nat
  b:Nat
  L:List Lx.Cf
  A:List Lx.Cf
  ro:Bool
  num:Int
  acc:Bool
  pred:Int
  eb:Option Nat
  eg:List Value
noncomputable def kHash (L:List Lx.Cf) (ro:Bool):Int:=if ro then hL L else -1
def edV:Option Nat→Value
  | none=>.slice none 0 0
  | some e=>.slice (some ⟨e,0,none⟩) 128 128
def SM.cells (s:SM):List Value:=[.int .i64 s.num,.pointer (some ⟨s.b,0,none⟩),edV s.eb,.bool s.acc,.int .i64 s.pred,.pointer none,.bool false,.slice none 0 0]
section
variable (kd bk xf pf:Nat→Nat)
def cbP (m:CfM):Value:=.pointer (some ⟨m.cb,0,none⟩)
noncomputable def SetW (b:Nat) (L A:List Lx.Cf) (ro:Bool) (ch:Int) (av cv jp:Value) (ms:List CfM):List HP :=
  [pts b 221 (setK av cv jp ch ro),Osl av 227 9 A.length (A.flatMap (cfN kd bk xf pf)),Osl cv 222 1 ms.length (ms.map cbP),stars (ms.map (CfP kd bk xf pf))]
noncomputable def SetP (b:Nat) (L A:List Lx.Cf) (ro:Bool) (ch:Int):HP:=fun h=>∃ q:(Value × Value × Value × List CfM),q.2.2.2.map CfM.key=L∧stars (SetW kd bk xf pf b L A ro ch q.1 q.2.1 q.2.2.1 q.2.2.2) h
def EdP (s:SM):HP:=match s.eb with
  | none=>top
  | some e=>pts e 157 s.eg
noncomputable def SP (s:SM):HP:=star (SetP kd bk xf pf s.b s.L s.A s.ro (kHash s.L s.ro)) (star (pts s.sb 178 s.cells) (EdP s))
structure SetF (w:World) (b:Nat) (L A:List Lx.Cf) (ro:Bool) (ch:Int):Prop where
  ex:∃ av jp sa cap cbs,FSW kd bk xf pf w b sa cap cbs L∧w.heap[b]? = some (ob 221 (setK av (.slice sa L.length cap) jp ch ro))
structure SMW (w:World) (s:SM):Prop where
  hb:w.heap[s.sb]? = some (ob 178 s.cells)
  set:SetF kd bk xf pf w s.b s.L s.A s.ro (kHash s.L s.ro)
end
variable {kd bk xf pf:Nat→Nat} {B N A:Nat} {w0 w:World} {r:List HP} {X:HP}
theorem SetW.fsw {b:Nat} {L Aq:List Lx.Cf} {ro:Bool} {ch:Int} {av cv jp:Value} {ms:List CfM} (h:NetB kd bk B w0 N) (hcx:CtxX xf pf B w0 X A) (hX:X ∈ r) (hL:∀ x ∈ L,x.1<N∧x.2<A) (hk:ms.map CfM.key=L)
    (H:St B w0 (SetW kd bk xf pf b L Aq ro ch av cv jp ms++r) w):∃ sa cap,cv=.slice sa L.length cap∧FSW kd bk xf pf w b sa cap (ms.map CfM.cb) L:=by
  have hlen:ms.length=L.length:=by rw [← hk]; simp
  unfold SetW at H
  simp only [List.cons_append,List.nil_append] at H
  have H2:=H.pick 2
  obtain ⟨a,c,rfl⟩:=H2.ownVal
  refine ⟨a,c,by rw [hlen],⟨by simp [hlen],?_,?_,?_⟩⟩
  · have:=H.cells.1 3
    simpa [setK,hlen] using this
  · intro hne
    have hne':ms≠[]:=by intro e; subst e; simp at hk; exact hne hk
    rcases H2.ownCell with ⟨_,h0,_⟩ | ⟨g,cap,e,_,hc,_⟩
    · exact absurd (List.eq_nil_of_length_eq_zero h0) hne'
    · have ea:a=some ⟨g,0,none⟩:=by injection e
      refine ⟨g,ea,fun i cb hi=>hc i _ ?_⟩
      rw [List.getElem?_map] at hi ⊢
      cases hm:ms[i]? with
      | none=>rw [hm] at hi; cases hi
      | some m=>rw [hm] at hi; simp at hi; subst hi; rfl
  · intro i cb x hi hx
    rw [List.getElem?_map] at hi
    cases hm:ms[i]? with
    | none=>rw [hm] at hi; cases hi
    | some m =>
      rw [hm] at hi
      simp at hi
      subst hi
      have hxk:x=m.key:=by rw [← hk,List.getElem?_map,hm] at hx; simpa using hx.symm
      have hmem:m ∈ ms:=List.mem_of_getElem? hm
      obtain ⟨l',H'⟩:=(H.pick 3).pickMem (List.mem_map_of_mem (f:=CfP kd bk xf pf) hmem)
      have H4:=(H'.split).pick 1
      have hxL:x ∈ L:=List.mem_of_getElem? hx
      have ho:w.heap[m.cb]? = some (ob 227 (cfN kd bk xf pf x)):=by rw [hxk]; exact H4.heap.2
      have hXX:X ∈ (pts b 221 (setK av (.slice a ms.length c) jp ch ro)::Osl av 227 9 Aq.length (Aq.flatMap (cfN kd bk xf pf))::Osl (.slice a ms.length c) 222 1 ms.length (ms.map cbP)::stars (ms.map (CfP kd bk xf pf))::r):=by simp [hX]
      exact ⟨ho,h.kok _ (hL x hxL).1,by rw [H.old.1 _ _ (h.blt _ (hL x hxL).1),h.num _ (hL x hxL).1],hcx.has H hXX (hL x hxL).2⟩
end Go.Proofs.YtbcngfgemjdllaaGreatDoor
end
section
namespace Lx
section
variable (h:Cf→Int) (hs:List Cf→Int) (out:Nat→List Tr) (n:Nat)
def AP (asked:List (List Cf × List Cf)):Prop :=
  (∀ x ∈ asked,∀ y ∈ asked,hs x.1=hs y.1→x.1.length=y.1.length→x.1=y.1)∧∀ x ∈ asked,∀ c ∈ x.2,∀ d ∈ x.2,h c=h d→c=d
structure Inv (D:DS):Prop where
  s0:∀ k,D.s0=some k→k<D.sts.length∧D.cfs k=dd [] (st0 out n)
  edge:∀ k c r,D.edges k c=some r→k<D.sts.length∧(r=none→dd [] (rch1 out n (D.cfs k) c)=[])∧∀ k',r=some k'→k'<D.sts.length∧D.cfs k'=dd [] (rch1 out n (D.cfs k) c)
  ask:∀ d ∈ D.sts,∃ a,(d,a) ∈ D.asked
structure Ext (D D':DS):Prop where
  sts:∃ e,D'.sts=D.sts++e
  asked:∃ e,D'.asked=D.asked++e
variable {h hs out n}
theorem Ext.refl (D:DS):Ext D D:=⟨⟨[],by simp⟩,⟨[],by simp⟩⟩
theorem Ext.trans {D D' D'':DS} (a:Ext D D') (b:Ext D' D''):Ext D D'':=by
  obtain ⟨⟨e1,h1⟩,⟨f1,g1⟩⟩:=a
  obtain ⟨⟨e2,h2⟩,⟨f2,g2⟩⟩:=b
  exact ⟨⟨e1++e2,by rw [h2,h1,List.append_assoc]⟩,⟨f1++f2,by rw [g2,g1,List.append_assoc]⟩⟩
theorem Ext.lt {D D':DS} (a:Ext D D') {k:Nat} (hk:k<D.sts.length):k<D'.sts.length:=by
  obtain ⟨e,he⟩:=a.sts; rw [he,List.length_append]; omega
theorem Ext.cfs {D D':DS} (a:Ext D D') {k:Nat} (hk:k<D.sts.length):D'.cfs k=D.cfs k:=by
  obtain ⟨e,he⟩:=a.sts
  unfold DS.cfs
  rw [he,List.getD_eq_getElem?_getD,List.getD_eq_getElem?_getD,List.getElem?_append_left hk]
theorem AP.mono {l m:List (List Cf × List Cf)} (hap:AP h hs (l++m)):AP h hs l :=
  ⟨fun x hx y hy=>hap.1 x (by simp [hx]) y (by simp [hy]),fun x hx=>hap.2 x (by simp [hx])⟩
theorem Ext.ap {D D':DS} (a:Ext D D') (hap:AP h hs D'.asked):AP h hs D.asked:=by
  obtain ⟨e,he⟩:=a.asked; rw [he] at hap; exact hap.mono
theorem Inv.nil:Inv out n ⟨[],fun _ _=>none,[],none⟩:=⟨fun _ e=>by simp at e,fun _ _ _ e=>by simp at e,fun _ e=>by simp at e⟩
theorem addS_ok {D:DS} {S:CS} (hi:Inv out n D) (hap:AP h hs (D.addS hs S).1.asked) :
    Inv out n (D.addS hs S).1∧Ext D (D.addS hs S).1∧(S.cf,S.ask) ∈ (D.addS hs S).1.asked∧(D.addS hs S).2<(D.addS hs S).1.sts.length∧(D.addS hs S).1.cfs (D.addS hs S).2=S.cf ∧
      (D.addS hs S).1.edges=D.edges∧(D.addS hs S).1.s0=D.s0:=by
  unfold DS.addS at hap ⊢
  cases hf:D.find hs S.cf with
  | some k =>
    simp only [hf] at hap ⊢
    obtain ⟨hk,hp,_⟩:=List.findIdx?_eq_some_iff_getElem.1 hf
    simp only [Bool.and_eq_true,beq_iff_eq] at hp
    obtain ⟨a,ha⟩:=hi.ask _ (List.getElem_mem hk)
    have e:=hap.1 (D.sts[k],a) (by simp [ha]) (S.cf,S.ask) (by simp) hp.1 hp.2
    have hc:∀ k',({ D with asked:=D.asked++[(S.cf,S.ask)] } : DS).cfs k'=D.cfs k':=fun _=>rfl
    refine ⟨⟨fun k' hk'=>hi.s0 k' hk',fun k' c r hr=>hi.edge k' c r hr,fun d hd => ?_⟩,⟨⟨[],by simp⟩,⟨_,rfl⟩⟩,by simp,hk,?_,(by first | rfl | trivial),(by first | rfl | trivial)⟩
    · obtain ⟨a,ha⟩:=hi.ask d hd; exact ⟨a,by simp [ha]⟩
    · rw [hc]; unfold DS.cfs; rw [List.getD_eq_getElem?_getD,List.getElem?_eq_getElem hk]; exact e
  | none =>
    simp only [hf] at hap ⊢
    have hx:Ext D { D with sts:=D.sts++[S.cf],asked:=D.asked++[(S.cf,S.ask),(S.cf,S.ask)] } := ⟨⟨_,rfl⟩,⟨_,rfl⟩⟩
    refine ⟨⟨fun k' hk' => ?_,fun k' c r hr => ?_,fun d hd => ?_⟩,hx,by simp,by simp,by simp [DS.cfs],(by first | rfl | trivial),(by first | rfl | trivial)⟩
    · obtain ⟨h1,h2⟩:=hi.s0 k' hk'
      exact ⟨hx.lt h1,(hx.cfs h1).trans h2⟩
    · obtain ⟨h1,h2,h3⟩:=hi.edge k' c r hr
      rw [hx.cfs h1]
      refine ⟨hx.lt h1,h2,fun k'' e => ?_⟩
      obtain ⟨h4,h5⟩:=h3 k'' e
      exact ⟨hx.lt h4,(hx.cfs h4).trans h5⟩
    · rcases List.mem_append.1 hd with hd | hd
      · obtain ⟨a,ha⟩:=hi.ask d hd; exact ⟨a,by simp [ha]⟩
      · simp at hd; subst hd; exact ⟨S.ask,by simp⟩
theorem adds_nil {xs:List Cf} (e:(adds h ⟨[],[]⟩ xs).cf=[]):xs=[]:=by
  have key:∀ (xs:List Cf) (S:CS),S.cf≠[]→(adds h S xs).cf≠[]:=by
    intro xs
    induction xs with
    | nil=>intro S hS; simpa [adds] using hS
    | cons x xs ih =>
      intro S hS
      refine ih (add1 h S x) ?_
      simp only [add1]
      split
      · exact hS
      · simp
  cases xs with
  | nil=>rfl
  | cons x xs=>exact (key xs (add1 h ⟨[],[]⟩ x) (by simp [add1]) e).elim
theorem adds_exact {xs:List Cf} {asked:List (List Cf × List Cf)} (hap:AP h hs asked) (hm:((adds h ⟨[],[]⟩ xs).cf,(adds h ⟨[],[]⟩ xs).ask) ∈ asked):(adds h ⟨[],[]⟩ xs).cf=dd [] xs:=by
  have h2:=hap.2 _ hm
  simp only [adds_ask,List.nil_append] at h2
  exact adds_dd xs ⟨[],[]⟩ (by simp) (by simpa using h2)
theorem setE_inv {D:DS} {k c:Nat} {r:Option Nat} (hi:Inv out n D) (hk:k<D.sts.length) (h1:r=none→dd [] (rch1 out n (D.cfs k) c)=[])
    (h2:∀ k',r=some k'→k'<D.sts.length∧D.cfs k'=dd [] (rch1 out n (D.cfs k) c)):Inv out n (D.setE k c r):=by
  have hc:∀ k',(D.setE k c r).cfs k'=D.cfs k':=fun _=>rfl
  refine ⟨fun k' e=>hi.s0 k' e,fun k' c' r' e => ?_,fun d hd=>hi.ask d hd⟩
  simp only [DS.setE] at e
  split at e
  · rename_i hh
    obtain ⟨rfl,rfl⟩:=hh
    cases e
    exact ⟨hk,h1,h2⟩
  · exact hi.edge k' c' r' e
theorem stepD_ok {D:DS} {k c:Nat} (hi:Inv out n D) (hk:k<D.sts.length) (hap:AP h hs (D.stepD h hs out n k c).1.asked) :
    Inv out n (D.stepD h hs out n k c).1∧Ext D (D.stepD h hs out n k c).1∧((D.stepD h hs out n k c).2=none→dd [] (rch1 out n (D.cfs k) c)=[]) ∧
      ∀ k',(D.stepD h hs out n k c).2=some k'→k'<(D.stepD h hs out n k c).1.sts.length∧(D.stepD h hs out n k c).1.cfs k'=dd [] (rch1 out n (D.cfs k) c):=by
  unfold DS.stepD at hap ⊢
  cases he:D.edges k c with
  | some r =>
    simp only [he] at hap ⊢
    obtain ⟨_,h2,h3⟩:=hi.edge k c r he
    exact ⟨hi,.refl D,h2,h3⟩
  | none =>
    simp only [he] at hap ⊢
    by_cases e:(adds h ⟨[],[]⟩ (rch1 out n (D.cfs k) c)).cf=[]
    · simp only [if_pos e] at hap ⊢
      have hx:=adds_nil e
      have hd:dd [] (rch1 out n (D.cfs k) c)=[]:=by rw [hx]; rfl
      exact ⟨setE_inv hi hk (fun _=>hd) (fun _ e=>by cases e),⟨⟨[],by simp [DS.setE]⟩,⟨[],by simp [DS.setE]⟩⟩,fun _=>hd,fun _ e=>by cases e⟩
    · simp only [if_neg e] at hap ⊢
      obtain ⟨h1,h2,h3,h4,h5,h6,h7⟩:=addS_ok (S:=adds h ⟨[],[]⟩ (rch1 out n (D.cfs k) c)) hi hap
      have hx:=adds_exact hap h3
      have hr:∀ k',some (D.addS hs (adds h ⟨[],[]⟩ (rch1 out n (D.cfs k) c))).2=some k'→k'<(D.addS hs (adds h ⟨[],[]⟩ (rch1 out n (D.cfs k) c))).1.sts.length ∧
          (D.addS hs (adds h ⟨[],[]⟩ (rch1 out n (D.cfs k) c))).1.cfs k'=dd [] (rch1 out n (D.cfs k) c):=by
        intro k' e'
        cases e'
        exact ⟨h4,h5.trans hx⟩
      refine ⟨setE_inv h1 (h2.lt hk) (fun e=>by cases e) ?_,⟨h2.sts,h2.asked⟩,(fun e=>by cases e),hr⟩
      rw [h2.cfs hk]
      exact hr
theorem startD_ok {D:DS} (hi:Inv out n D) (hap:AP h hs (D.startD h hs out n).1.asked) :
    Inv out n (D.startD h hs out n).1∧Ext D (D.startD h hs out n).1∧(D.startD h hs out n).2<(D.startD h hs out n).1.sts.length∧(D.startD h hs out n).1.cfs (D.startD h hs out n).2=dd [] (st0 out n):=by
  unfold DS.startD at hap ⊢
  cases he:D.s0 with
  | some k =>
    simp only [he] at hap ⊢
    obtain ⟨h1,h2⟩:=hi.s0 k he
    exact ⟨hi,.refl D,h1,h2⟩
  | none =>
    simp only [he] at hap ⊢
    obtain ⟨h1,h2,h3,h4,h5,h6,h7⟩:=addS_ok (S:=adds h ⟨[],[]⟩ (st0 out n)) hi hap
    have hx:=adds_exact hap h3
    refine ⟨⟨fun k e => ?_,fun k c r e=>h1.edge k c r e,fun d hd=>h1.ask d hd⟩,⟨h2.sts,h2.asked⟩,h4,h5.trans hx⟩
    simp only at e
    cases e
    exact ⟨h4,h5.trans hx⟩
end
structure Rul (out:Nat→List Tr) (stop:Nat→Bool) (kindOf:Nat→Int) (rules:List Ex):Prop where
  start:∀ (r:Nat) e,rules[r]? = some e→∃ st fr en sp,(out 0)[r]? = some (.eps st)∧out st=[.eps fr]∧Frag out e fr en∧out en=[.eps sp]∧out sp=[]∧stop sp=true∧kindOf sp=r+1
  only:∀ (r:Nat) st,(out 0)[r]? = some (.eps st)→r<rules.length
  good:∀ e ∈ rules,∃ d,good d e=true
  ends:∀ s,stop s=true→out s=[]
section
variable {out:Nat→List Tr} {t:List Nat} {stop:Nat→Bool} {kindOf:Nat→Int} {rules:List Ex}
theorem Pth.stay {m:Nat} {s i:Nat} {y:Nat × Nat} (hs:out s=[]) (p:Pth out t m (s,i) y):y=(s,i):=by
  cases p with
  | nil=>rfl
  | cons h p=>cases h with
    | eps h'=>rw [hs] at h'; cases h'
    | sym h'=>rw [hs] at h'; cases h'
theorem Rul.reach (hr:Rul out stop kindOf rules) {r st i j s:Nat} (h0:(out 0)[r]? = some (.eps st)) (hs:stop s=true) :
    Rch out t (st,i) (s,j) ↔ ∃ e,rules[r]? = some e∧R t e i j∧kindOf s=r+1∧∃ fr en,out st=[.eps fr]∧Frag out e fr en∧out en=[.eps s]:=by
  obtain ⟨e,he⟩:∃ e,rules[r]? = some e:=⟨_,List.getElem?_eq_getElem (hr.only r st h0)⟩
  obtain ⟨st',fr,en,sp,h1,h2,h3,h4,h5,h6,h7⟩:=hr.start r e he
  rw [h0] at h1
  cases h1
  have hso:=hr.ends s hs
  obtain ⟨d,hd⟩:=hr.good e (List.mem_of_getElem? he)
  constructor
  · rintro ⟨m,p⟩
    obtain ⟨m1,_,p⟩:=p.one h2 hso
    obtain ⟨j',m2,hR,_,p⟩:=snd_all t e d hd fr en h3 m1 i s j p hso
    obtain ⟨m3,_,p⟩:=p.one h4 hso
    have:=p.stay h5
    simp only [Prod.mk.injEq] at this
    obtain ⟨rfl,rfl⟩:=this
    exact ⟨e,he,hR,h7,fr,en,h2,h3,h4⟩
  · rintro ⟨e',he',hR,_,fr',en',h2',h3',h4'⟩
    rw [he] at he'; cases he'
    rw [h2] at h2'; simp at h2'; subst h2'
    exact .one h2 ((cpl_all t e fr en' h3' i j hR).trans (.one h4' (.refl _)))
def Mt (rules:List Ex) (t:List Nat) (r i j:Nat):Prop:=∃ e,rules[r]? = some e∧R t e i j
theorem Rul.mem (hr:Rul out stop kindOf rules) {L:List Cf} {i j:Nat} (h:At out t i j L) {s a:Nat} (hs:stop s=true) (hm:(s,a) ∈ L):∃ r:Nat,a=r+1∧kindOf s=r+1∧Mt rules t r i j:=by
  obtain ⟨_,f,r,rfl,h0,hp⟩:=(h.mem s a).1 hm
  obtain ⟨e,he,hR,hk,_⟩:=(hr.reach h0 hs).1 hp
  exact ⟨r,rfl,hk,e,he,hR⟩
theorem Rul.mem' (hr:Rul out stop kindOf rules) {L:List Cf} {i j r:Nat} (h:At out t i j L) (hm:Mt rules t r i j):∃ s,stop s=true∧(s,r+1) ∈ L:=by
  obtain ⟨e,he,hR⟩:=hm
  obtain ⟨st,fr,en,sp,h1,h2,h3,h4,h5,h6,h7⟩:=hr.start r e he
  refine ⟨sp,h6,(h.mem sp (r+1)).2 ⟨?_,st,r,rfl,h1,?_⟩⟩
  · simp [Kept,h5,epsOnly]
  · exact (hr.reach h1 h6).2 ⟨e,he,hR,h7,fr,en,h2,h3,h4⟩
theorem Rul.accd (hr:Rul out stop kindOf rules) {L:List Cf} {i j:Nat} (h:At out t i j L) :
    (accd stop L=none→∀ r,¬ Mt rules t r i j)∧∀ x,accd stop L=some x→∃ r:Nat,kindOf x.1=r+1∧Mt rules t r i j∧∀ r',Mt rules t r' i j→r≤r':=by
  constructor
  · intro hn r hm
    obtain ⟨s,hs,hin⟩:=hr.mem' h hm
    have:=List.find?_eq_none.1 hn _ hin
    simp [hs] at this
  · rintro ⟨s,a⟩ hx
    have hs:stop s=true:=by have:=List.find?_some hx; simpa using this
    obtain ⟨r,rfl,hk,hm⟩:=hr.mem h hs (List.mem_of_find?_eq_some hx)
    refine ⟨r,hk,hm,fun r' hm' => ?_⟩
    obtain ⟨s',hs',hin'⟩:=hr.mem' h hm'
    obtain ⟨l1,l2,hL,hno⟩:=(List.find?_eq_some_iff_append.1 hx).2
    have hasc:=h.asc
    rw [hL] at hin' hasc
    rcases List.mem_append.1 hin' with hi | hi
    · have:=hno _ hi; simp [hs'] at this
    · rcases List.mem_cons.1 hi with hi | hi
      · simp only [Prod.mk.injEq] at hi; omega
      · have:=List.rel_of_pairwise_cons (List.pairwise_append.1 hasc).2.1 hi
        simp only at this; omega
end
end Lx
end
