/- Part 26: D49, D50, D51, D52, D53. -/
import Derived.Defers
import Derived.Recover
import Derived.Test.YtbcngfgemjdllaaGreatDoorB25
set_option linter.unusedVariables false
set_option linter.unusedSimpArgs false
section
namespace Go.Proofs.YtbcngfgemjdllaaGreatDoor
open Go.RowKit Go.Own
variable {kd bk xf pf ru:Nat→Nat} {out:Nat→List Lx.Tr} {kindOf:Nat→Int} {stop:Nat→Bool} {B n N A at_ nr:Nat} {w0 w:World} {r:List HP} {X:HP} {P:List Lx.Cf→Prop}
theorem DfaL_fresh {xf' pf':Nat→Nat} {m:DM} {d:Nat} {ats:Value} {dec:Int} (h1:m.ms=[]) (h2:m.xs=[]):DfaL kd bk xf pf d ats dec m=DfaL kd bk xf' pf' d ats dec m:=by
  unfold DfaL
  rw [h1,h2]
  rfl
theorem perm4 {a b c x:HP} {L:List HP} : (x::a::b::c::(L++r)).Perm (a::(L++(b::c::x::r))):=by
  have p:∀ (x y z:List HP),(x++(y++z)).Perm (y++(x++z)):=fun x y z=>by
    rw [← List.append_assoc,← List.append_assoc]
    exact List.perm_append_comm.append_right z
  refine (List.Perm.swap a x _).trans (List.Perm.cons a ?_)
  have h1:(x::b::c::(L++r)).Perm (b::c::x::(L++r)):=(List.Perm.swap b x _).trans (List.Perm.cons b (List.Perm.swap c x _))
  exact h1.trans (p [b,c,x] L r)
set_option maxRecDepth 100000 in
set_option maxHeartbeats 2000000 in
theorem c61 (hR:NetR kd bk out ru kindOf B w0 N at_ nr) (hst:∀ n,n<N→stop n=(kd n == 7)) (hE:Env out n N A P) (hd0:∀ tr ∈ out 0,Lx.Dep out n tr.to) (hout:0<(out 0).length) {l d pa ib cap pos ln col si:Nat} {sa:Option Addr} {t:List Nat} {σ : Sim} {dps:List Value} {ats:Value} {dec:Int} {m:DM} {D:Lx.DS} {p0 l0 k0:Int}
    (ht:∀ c ∈ t,c≤127) (hl2:t.length<1073741824) (hσ : σ.at_=at_) (hnd:0 < σ.nd) (hd:dps[0]? = some (bp d)) (hpa : σ.pa=pa) (hsi : σ.si=(si:Int)) (hm:DMok N A stop kindOf m D) (hfr:m.ms=[]∧m.xs=[]) (hs0:D.s0=none) (inv:DInv P D (t.length - pos+1)) (hpos:pos≤t.length) (hln:ln+(t.length - pos)<1099511627776) (hcol:col+(t.length - pos)<1099511627776)
    (H:St B w0 (SimP l { σ with ln:=(ln:Int),col:=(col:Int) } dps::pts pa 234 (accC p0 l0 k0 (.pointer none))::ChP ib sa cap t pos::(DfaL kd bk xf pf d ats dec m++r)) w) :
    Calls Tryz.prog 61 #[bp l,.iface 123 (bp ib)] w fun e w'=>∃ xf pf,CtxX xf pf B w0 (CtxS xf pf (out 0).length) A∧ExPost kd bk xf pf B N A w0 (CtxS xf pf (out 0).length::r) stop kindOf P l d pa ib cap sa t σ dps ats dec si
      (Lx.runF hN hS out n stop (t.drop pos) (D.startD hN hS out n).1 (D.startD hN hS out n).2 pos ln col (if (Lx.accd stop ((D.startD hN hS out n).1.cfs (D.startD hN hS out n).2)).isSome then some ⟨pos,ln,col,(D.startD hN hS out n).2⟩ else none)) e w':=by
  have hstart:D.startD hN hS out n=({ (D.addS hS (Lx.adds hN ⟨[],[]⟩ (Lx.st0 out n))).1 with s0:=some (D.addS hS (Lx.adds hN ⟨[],[]⟩ (Lx.st0 out n))).2 },(D.addS hS (Lx.adds hN ⟨[],[]⟩ (Lx.st0 out n))).2):=by
    unfold Lx.DS.startD
    rw [hs0]
  rw [hstart]
  obtain ⟨gm,nm,cm,hgm,hnm,hat5,hgm0⟩:=hR.mode
  have l0':w.cell? ⟨l,0,none⟩=some (bp at_):=by rw [← hσ]; exact H.split.cells.1 0
  have l9:w.cell? ⟨l,9,none⟩=some (.int .i64 0):=H.split.cells.1 9
  have a5:w.cell? ⟨at_,5,none⟩=some (.slice (some ⟨gm,0,none⟩) nm cm):=by rw [H.old.1 _ _ hR.atlt]; exact hat5
  have g0:w.cell? ⟨gm,0,none⟩=some (bp (bk 0)):=by rw [H.old.1 _ _ hgm]; exact hgm0
  have hnm':(0:Int)<(nm:Int):=by omega
  have hk6:ty (kd 0)=239:=by rw [hR.zero.2]; rfl
  have h72:=fun q=>c72 (l:=l) (iv:=.iface 123 (bp ib)) hR.toNetT hR.zero.1 hd0 hE.slen (H.drewN q)
  rw [hk6] at h72
  have hS2:∀ x ∈ (Lx.adds hN ⟨[],[]⟩ (Lx.st0 out n)).cf,x.1<N∧x.2<A:=adds_mem _ (fun x=>x.1<N∧x.2<A) (by simp) hE.slt
  have hS3:∀ x ∈ (Lx.adds hN ⟨[],[]⟩ (Lx.st0 out n)).ask,x.1<N∧x.2<A:=by rw [Lx.adds_ask]; simpa using hE.slt
  have hla:(Lx.adds hN ⟨[],[]⟩ (Lx.st0 out n)).ask.length<1099511627776:=by rw [asks_len]; have:=hE.slen; simp; exact this
  have hlc:(Lx.adds hN ⟨[],[]⟩ (Lx.st0 out n)).cf.length<1099511627776:=Nat.lt_of_le_of_lt (adds_len _ (S:=⟨[],[]⟩) (Nat.le_refl _)) hla
  have hne:=hE.sne
  have hPS:=hE.sP
  have inv2:=addS_inv (S:=Lx.adds hN ⟨[],[]⟩ (Lx.st0 out n)) inv hPS
  have haq:m.aq.length+1<1099511627776:=by have h1:=inv.al; rw [hm.asked,List.length_map] at h1; omega
  have hms:m.ms.length<1099511627776:=by rw [hfr.1]; simp
  generalize hSS:Lx.adds hN ⟨[],[]⟩ (Lx.st0 out n)=S at h72 hS2 hS3 hla hlc hne hPS inv2 ⊢
  generalize hRR:Lx.runF hN hS out n stop _ _ _ _ _ _ _=R
  have HRR:=Lib.hid hRR
  have hA:=hE.hA
  have h73:=fun xf pf (hcx:CtxX xf pf B w0 (CtxS xf pf (out 0).length) A) w b jb mb cmb H=>c73 (w:=w) (b:=b) (jb:=jb) (mb:=mb) (cmb:=cmb) (l:=l) (d:=d) (σ := { σ with ln:=(ln:Int),col:=(col:Int) }) (dps:=dps) (ats:=ats) (dec:=dec) (r:=pts pa 234 (accC p0 l0 k0 (.pointer none))::ChP ib sa cap t pos::CtxS xf pf (out 0).length::r) hR hst hcx (by simp) hm hσ hnd hd false hne hS2 hS3 hlc hla haq hms H
  have h62:=fun xf pf (hcx:CtxX xf pf B w0 (CtxS xf pf (out 0).length) A) w m1 k1 x hm1 hk1 H=>c62 (w:=w) (m:=m1) (k:=k1) (s:=x) (l:=l) (d:=d) (ib:=ib) (sa:=sa) (cap:=cap) (pos:=pos) (ln:=ln) (col:=col) (si:=si) (σ := σ) (p0:=p0) (l0:=l0) (k0:=k0) (dps:=dps) (ats:=ats) (dec:=dec) (r:=CtxS xf pf (out 0).length::r) (D := { (D.addS hS S).1 with s0:=some (D.addS hS S).2 }) hR hst hcx (by simp) hE ht hl2 hσ hnd hd hpa hsi hm1 ⟨inv2.P,inv2.sl,inv2.al⟩ hk1 hpos hln hcol H
  have hctx:=fun (xf pf:Nat→Nat) (hz:0<(out 0).length→xf 0=xf 1∧pf 0=pf 1)=>(by rw [hA]; exact ctxX_of hout (hz hout).1 (hz hout).2:CtxX xf pf B w0 (CtxS xf pf (out 0).length) A)
  have H72:=Lib.hid h72
  have H73:=Lib.hid h73
  have H62:=Lib.hid h62
  have Hctx:=Lib.hid hctx
  have HH:=Lib.hid H
  clear hA h72 h73 h62 hctx hR hst hE inv inv2 hS2 hS3 hm hat5 hgm0 H hSS hRR
  go_enter Tryz.func61,Tryz.ntmps61
  go_wp2_with (first
    | (go_quiet (fail))
    | (go_at_call 72; refine (H72.out _).mono ?_; rintro e w1 ⟨b,jb,mb,cmb,xf1,pf1,rfl,hz,H1⟩
       obtain ⟨b7,b7f,b7s,sa1,cap1,b3⟩:=SetH.c7 H1
       rw [DfaL_fresh (xf':=xf1) (pf':=pf1) hfr.1 hfr.2] at H1
       have hcx1:=Hctx.out xf1 pf1 hz
       have H2:=SetH.permR H1 perm4)
    | (go_at_call 73; refine (H73.out xf1 pf1 hcx1 _ _ _ _ _ H2).mono ?_; rintro e w2 ⟨m1,x,hx,rfl,hm1,H3,hg⟩
       simp only [Bool.false_eq_true,if_false] at hm1
       have H4:=H3.perm (perm2 (r:=CtxS xf1 pf1 (out 0).length::r)).symm))
  go_at_call 62
  refine (H62.out xf1 pf1 hcx1 _ _ _ _ hm1 hx H4).mono ?_
  rintro e w3 hp
  have hcf:=cfs_of hm1 hx
  rw [← hcf] at hp
  rw [HRR.out] at hp
  have HP:=Lib.hid hp
  have hcs:=ExPost.cases hp
  clear hp hcf
  rcases hcs with ⟨v,rfl⟩ | ⟨ch,rfl⟩
  · go_wp2_with fail
    go_ret
    exact ⟨xf1,pf1,hcx1,HP.out⟩
  · exact ⟨rfl,xf1,pf1,hcx1,HP.out⟩
end Go.Proofs.YtbcngfgemjdllaaGreatDoor
end
section
namespace Go.Proofs.YtbcngfgemjdllaaGreatDoor
open Go.RowKit Go.Own
variable {kd bk xf pf ru:Nat→Nat} {out:Nat→List Lx.Tr} {kindOf:Nat→Int} {stop:Nat→Bool} {B n N A at_ nr:Nat} {w0 w:World} {r:List HP} {X:HP} {P:List Lx.Cf→Prop}
theorem c71 {pa:Nat} {p0 l0 k0:Int} {v0:Value} (H:St B w0 (pts pa 234 (accC p0 l0 k0 v0)::r) w):Calls Tryz.prog 71 #[bp pa] w fun e w'=>e=.returned (.tuple #[])∧St B w0 (pts pa 234 (accC (-1) 0 (-1) (.pointer none))::r) w':=by
  have H1:=H.setCell (off:=0) (.int .i64 (-1))
  have H2:=H1.setCell (off:=1) (.int .i64 0)
  have H3:=H2.setCell (off:=2) (.int .i64 (-1))
  have H4:=H3.setCell (off:=3) (.pointer none)
  have a0:=H.cells.1 0
  have a1:=H1.cells.1 1
  have a2:=H2.cells.1 2
  have a3:=H3.cells.1 3
  have f0:=H.cells.2 0
  have f1:=H1.cells.2 1
  have f2:=H2.cells.2 2
  have f3:=H3.cells.2 3
  simp [accC] at a0 a1 a2 a3
  have HH:=Lib.hid H4
  clear H H1 H2 H3 H4
  go_enter Tryz.func71,Tryz.ntmps71
  go_wp2_with fail
  go_end0
  exact ⟨rfl,HH.out⟩
theorem c59 {pa:Nat} {p0 l0 k0:Int} {v0:Value} (H:St B w0 (pts pa 234 (accC p0 l0 k0 v0)::r) w):Calls Tryz.prog 59 #[bp pa] w fun e w'=>e=.returned (.tuple #[])∧St B w0 (pts pa 234 (accC (-1) 0 (-1) (.pointer none))::r) w':=by
  have h71:=c71 H
  have H71:=Lib.hid h71
  clear H h71
  go_enter Tryz.func59,Tryz.ntmps59
  go_wp2_with (first | (go_at_call 71; refine H71.out.mono ?_; rintro e w1 ⟨rfl,H1⟩))
  go_end0
  exact ⟨rfl,H1⟩
theorem c58 {ib:Nat} {a b:Addr} {u:FrameMode} (ha:w.cell? a=some (.iface 123 (bp ib))) (hb:w.cell? b=some (.int .i64 (-1))) :
    CallsD Tryz.prog 58 #[.pointer (some a),.pointer (some b)] u w fun e u' w'=>u'=u∧(e=.returned (.tuple #[])∧w'=w):=by
  go_enter_d Tryz.func58,Tryz.ntmps58
  go_wp2_with (first | (go_at_call 279; refine c279.mono ?_; rintro e w' ⟨rfl,rfl⟩))
  go_end0
  exact ⟨rfl,rfl⟩
theorem ExPost.imp_r {r r':List HP} {l d pa ib cap si:Nat} {sa:Option Addr} {t:List Nat} {σ : Sim} {dps:List Value} {ats:Value} {dec:Int} {R:Lx.DS × Option Lx.AccR × Nat × Bool} {e:Ending} (f:∀ L w,St B w0 (L++r) w→St B w0 (L++r') w)
    (h:ExPost kd bk xf pf B N A w0 r stop kindOf P l d pa ib cap sa t σ dps ats dec si R e w):ExPost kd bk xf pf B N A w0 r' stop kindOf P l d pa ib cap sa t σ dps ats dec si R e w:=by
  obtain ⟨m',p0,l0,k0,v0,h1,h2,h3⟩:=h
  refine ⟨m',p0,l0,k0,v0,h1,h2,?_⟩
  cases hR:R.2.1 with
  | some a =>
    rw [hR] at h3
    exact ⟨h3.1,h3.2.1,f (_::_::_::DfaL kd bk xf pf d ats dec m') _ h3.2.2⟩
  | none =>
    rw [hR] at h3
    obtain ⟨g,ln,col,h | h⟩:=h3
    · exact ⟨g,ln,col,.inl ⟨h.1,h.2.1,h.2.2.1,f (_::_::_::DfaL kd bk xf pf d ats dec m') _ h.2.2.2⟩⟩
    · obtain ⟨h4,pb,h5,h6⟩:=h
      exact ⟨g,ln,col,.inr ⟨h4,pb,h5,f (_::_::_::_::DfaL kd bk xf pf d ats dec m') _ h6⟩⟩
end Go.Proofs.YtbcngfgemjdllaaGreatDoor
end
section
namespace Go.Proofs.YtbcngfgemjdllaaGreatDoor
open Go.RowKit Go.Own
variable {kd bk xf pf ru:Nat→Nat} {out:Nat→List Lx.Tr} {kindOf:Nat→Int} {stop:Nat→Bool} {B n N A at_ nr:Nat} {w0 w:World} {r:List HP} {X:HP} {P:List Lx.Cf→Prop}
theorem perm5 {a b c x y:HP} {L:List HP} : (a::b::c::x::y::(L++r)).Perm (x::a::y::(L++(c::b::r))):=by
  have p:∀ (x y z:List HP),(x++(y++z)).Perm (y++(x++z)):=fun x y z=>by
    rw [← List.append_assoc,← List.append_assoc]
    exact List.perm_append_comm.append_right z
  refine (p [a,b,c] [x] (y::(L++r))).trans (List.Perm.cons x (List.Perm.cons a ?_))
  refine (p [b,c] [y] (L++r)).trans (List.Perm.cons y ?_)
  exact (List.Perm.swap c b _).trans (p [c,b] L r)
theorem pre42 {l d pa ib cap pos ln col:Nat} {sa:Option Addr} {t:List Nat} {σ : Sim} {dps:List Value} {ats:Value} {dec:Int} {m:DM} {p0 l0 k0:Int} {v0:Value} (mc:Int)
    (H:St B w0 (SimP l { σ with ln:=(ln:Int),col:=(col:Int) } dps::pts pa 234 (accC p0 l0 k0 v0)::ChP ib sa cap t pos::(DfaL kd bk xf pf d ats dec m++r)) w) :
    ((((w.setCell ⟨l,11,none⟩ (.int .i64 mc)).setCell ⟨l,9,none⟩ (.int .i64 0)).alloc (.cells #[.iface 123 (bp ib)] 200)).alloc (.cells #[.int .i64 (-1)] 3)).cell? ⟨ib,1,none⟩=some (.int .i64 pos) ∧
    St B w0 (pts pa 234 (accC p0 l0 k0 v0)::SimP l { σ with ln:=(ln:Int),col:=(col:Int),mc:=mc,si:=pos } dps::ChP ib sa cap t pos::(DfaL kd bk xf pf d ats dec m++(pts w.heap.size 200 [.iface 123 (bp ib)]::pts (w.heap.size+1) 3 [.int .i64 (-1)]::r)))
      (((((w.setCell ⟨l,11,none⟩ (.int .i64 mc)).setCell ⟨l,9,none⟩ (.int .i64 0)).setCell ⟨l,6,none⟩ (.int .i64 pos)).alloc (.cells #[.iface 123 (bp ib)] 200)).alloc (.cells #[.int .i64 (-1)] 3)):=by
  have H1:=H.split.setCell (off:=11) (.int .i64 mc)
  have H2:=H1.setCell (off:=9) (.int .i64 0)
  refine ⟨(ChP.cell (((H2.alloc (ob 200 [.iface 123 (bp ib)])).alloc (ob 3 [.int .i64 (-1)])).pick 5)).2.1,?_⟩
  have H2:=H2.setCell (off:=6) (.int .i64 pos)
  have H3:=H2.alloc (ob 200 [.iface 123 (bp ib)])
  have H4:=H3.alloc (ob 3 [.int .i64 (-1)])
  have e1:(((w.setCell ⟨l,11,none⟩ (.int .i64 mc)).setCell ⟨l,9,none⟩ (.int .i64 0)).setCell ⟨l,6,none⟩ (.int .i64 pos)).heap.size=w.heap.size:=by simp [World.setCell]
  have e2:((((w.setCell ⟨l,11,none⟩ (.int .i64 mc)).setCell ⟨l,9,none⟩ (.int .i64 0)).setCell ⟨l,6,none⟩ (.int .i64 pos)).alloc (ob 200 [.iface 123 (bp ib)])).heap.size=w.heap.size+1:=by
    show (Array.push _ _).size=_
    rw [Array.size_push,e1]
  rw [e1] at H3 H4
  rw [e2] at H4
  have H6:St B w0 (SimP l { σ with ln:=(ln:Int),col:=(col:Int),mc:=mc,si:=pos } dps::pts (w.heap.size+1) 3 [.int .i64 (-1)]::pts w.heap.size 200 [.iface 123 (bp ib)]::pts pa 234 (accC p0 l0 k0 v0)::ChP ib sa cap t pos::(DfaL kd bk xf pf d ats dec m++r)) _:=((H4.pick 3).pick 3).join
  exact H6.perm perm5
theorem St.dropL {r:List HP} {w:World} : ∀ (L:List HP),St B w0 (L++r) w→St B w0 r w
  | [],H=>H
  | x::L,H=>St.dropL L (St.drop (A:=x) H)
theorem ExPost.cases2 {l d pa ib cap si:Nat} {sa:Option Addr} {t:List Nat} {σ : Sim} {dps:List Value} {ats:Value} {dec:Int} {R:Lx.DS × Option Lx.AccR × Nat × Bool} {e:Ending} (h:ExPost kd bk xf pf B N A w0 r stop kindOf P l d pa ib cap sa t σ dps ats dec si R e w) :
    (∃ v,e=.returned v)∨∃ pb,e=.panicked [{ v:=.iface 127 (bp pb),recovered:=false }]:=by
  obtain ⟨m',p0,l0,k0,v0,h1,h2,h3⟩:=h
  cases hR:R.2.1 with
  | some a=>rw [hR] at h3; exact .inl ⟨_,h3.2.1⟩
  | none =>
    rw [hR] at h3
    obtain ⟨_,ln,col,h | h⟩:=h3
    · exact .inl ⟨_,h.2.2.1⟩
    · obtain ⟨_,pb,h,_⟩:=h; exact .inr ⟨_,h⟩
theorem drop_mid {r:List HP} {w:World} {L:List HP} {a b c:HP} (H:St B w0 (L++(c::a::b::r)) w):St B w0 (L++(c::r)) w:=by
  have H1:St B w0 ((L++[c])++(a::b::r)) w:=by simpa using H
  have H2:St B w0 (r++(L++[c])) w:=(H1.perm List.perm_append_comm).drop.drop
  have:=H2.perm List.perm_append_comm
  simpa using this
theorem ExPost.any {l d pa ib cap si:Nat} {sa:Option Addr} {t:List Nat} {σ : Sim} {dps:List Value} {ats:Value} {dec:Int} {R:Lx.DS × Option Lx.AccR × Nat × Bool} {e:Ending}
    (h:ExPost kd bk xf pf B N A w0 r stop kindOf P l d pa ib cap sa t σ dps ats dec si R e w):St B w0 r w:=by
  have f:=fun L=>St.dropL (B:=B) (w0:=w0) (r:=r) (w:=w) L
  obtain ⟨m',p0,l0,k0,v0,h1,h2,h3⟩:=h
  cases hR:R.2.1 with
  | some a =>
    rw [hR] at h3
    exact f (_::_::_::DfaL kd bk xf pf d ats dec m') h3.2.2
  | none =>
    rw [hR] at h3
    obtain ⟨g,ln,col,h | h⟩:=h3
    · exact f (_::_::_::DfaL kd bk xf pf d ats dec m') h.2.2.2
    · obtain ⟨h4,pb,h5,h6⟩:=h
      exact f (_::_::_::_::DfaL kd bk xf pf d ats dec m') h6
set_option maxRecDepth 100000 in
set_option maxHeartbeats 2000000 in
theorem c42_first (hR:NetR kd bk out ru kindOf B w0 N at_ nr) (hst:∀ n,n<N→stop n=(kd n == 7)) (hE:Env out n N A P) (hd0:∀ tr ∈ out 0,Lx.Dep out n tr.to) (hout:0<(out 0).length) {l d pa ib cap pos ln col:Nat} {sa:Option Addr} {t:List Nat} {σ : Sim} {dps:List Value} {ats:Value} {dec:Int} {m:DM} {D:Lx.DS} {p0 l0 k0:Int} {v0:Value}
    (ht:∀ c ∈ t,c≤127) (hl2:t.length<1073741824) (hσ : σ.at_=at_) (hnd:0 < σ.nd) (hd:dps[0]? = some (bp d)) (hpa : σ.pa=pa) (hm:DMok N A stop kindOf m D) (hfr:m.ms=[]∧m.xs=[]) (hs0:D.s0=none) (inv:DInv P D (t.length - pos+1)) (hpos:pos≤t.length) (hln:ln+(t.length - pos)<1099511627776) (hcol:col+(t.length - pos)<1099511627776)
    (H:St B w0 (SimP l { σ with ln:=(ln:Int),col:=(col:Int) } dps::pts pa 234 (accC p0 l0 k0 v0)::ChP ib sa cap t pos::(DfaL kd bk xf pf d ats dec m++r)) w) :
    Calls Tryz.prog 42 #[bp l,.iface 123 (bp ib),.int .i64 0] w fun e w'=>∃ xf pf,CtxX xf pf B w0 (CtxS xf pf (out 0).length) A∧ExPost kd bk xf pf B N A w0 (CtxS xf pf (out 0).length::r) stop kindOf P l d pa ib cap sa t { σ with mc:=wrap64 (σ.mc+1),si:=pos } dps ats dec pos
      (Lx.runF hN hS out n stop (t.drop pos) (D.startD hN hS out n).1 (D.startD hN hS out n).2 pos ln col (if (Lx.accd stop ((D.startD hN hS out n).1.cfs (D.startD hN hS out n).2)).isSome then some ⟨pos,ln,col,(D.startD hN hS out n).2⟩ else none)) e w':=by
  have hmf:∀ (fn:Fn) (first cap:Array Value) (w:World),(Instr.makeFunc fn first cap).run Tryz.prog w=.ok (.func fn first cap) w:=fun _ _ _ _=>rfl
  have l11:w.cell? ⟨l,11,none⟩=some (.int .i64 σ.mc):=H.split.cells.1 11
  have l9:w.cell? ⟨l,9,none⟩=some (.int .i64 0):=H.split.cells.1 9
  have l6:w.cell? ⟨l,6,none⟩=some (.int .i64 σ.si):=H.split.cells.1 6
  have l10:w.cell? ⟨l,10,none⟩=some (bp pa):=by rw [H.split.cells.1 10]; simp [Sim.cells,hpa]
  have lf:=H.split.cells.2
  have hllt:l<w.heap.size:=World.block_lt_of_cell? _ _ l9
  have hne : ¬ l=w.heap.size:=by omega
  obtain ⟨hi4,H7⟩:=pre42 (wrap64 (σ.mc+1)) H
  have hne1 : ¬ l=w.heap.size+1:=by omega
  have hib:=(ChP.cell (H.pick 2)).2.1
  have hil:ib<w.heap.size:=World.block_lt_of_cell? _ _ hib
  have hni : ¬ ib=w.heap.size:=by omega
  have hni1 : ¬ ib=w.heap.size+1:=by omega
  have HH:=Lib.hid H7
  have hsi0:m.s0=none:=by have h:=hm.s0; rw [hs0] at h; exact h
  have hnd0:(0:Int)<(σ.nd:Int):=by omega
  have hde:0<dps.length:=(List.getElem?_eq_some_iff.1 hd).1
  have h61:=fun w1 H=>c61 (xf:=xf) (pf:=pf) (w:=w1) (r:=pts w.heap.size 200 [.iface 123 (bp ib)]::pts (w.heap.size+1) 3 [.int .i64 (-1)]::r) (l:=l) (d:=d) (ib:=ib) (sa:=sa) (cap:=cap) (pos:=pos) (ln:=ln) (col:=col) (si:=pos) hR hst hE hd0 hout (σ := { σ with mc:=wrap64 (σ.mc+1),si:=pos }) (dps:=dps) (ats:=ats) (dec:=dec) (m:=m) (D:=D) (p0 := -1) (l0:=0) (k0 := -1) ht hl2 hσ hnd hd hpa rfl hm hfr hs0 inv hpos hln hcol H
  generalize hRR:Lx.runF hN hS out n stop _ _ _ _ _ _ _=R at h61 ⊢
  have H61:=Lib.hid h61
  clear h61 hR hst hE hm hfr hs0 inv H7 H hRR
  go_enter_defers Tryz.func42,Tryz.ntmps42
  go_wp2_with (first
    | (go_at_call 278; refine c278.mono ?_; rintro e w' ⟨rfl,rfl⟩)
    | (go_at_call 43; refine (c43 ib (.int .i64 pos) _ ?_).mono ?_; (· exact hi4); rintro e w' ⟨rfl,rfl⟩)
    | (go_at_call 59; refine (c59 HH.out).mono ?_; rintro e w1 ⟨rfl,H8⟩
       have H8':=H8.pick 1
       have l2:=H8'.split.cells.1 2
       simp only [Sim.cells,List.getElem?_cons_succ,List.getElem?_cons_zero] at l2
       have ds0:=(H8'.split.pick 1).cells.1 0
       rw [hd] at ds0
       have d5:=(DfaL.c5 (H8.drop.drop.drop)).1
       rw [hsi0] at d5
       simp only [Option.map_none] at d5
       have bx:w1.cell? ⟨w.heap.size,0,none⟩=some (.iface 123 (bp ib)):=(St.dropL _ H8.drop.drop.drop).cells.1 0
       have H9:=Lib.hid H8'
       clear H8 H8')
    | (go_at_call 60; refine (c60 d _ _ d5).mono ?_; rintro e w' ⟨rfl,rfl⟩))
  go_at_call 61
  refine (H61.out _ H9.out).mono ?_
  rintro e w3 ⟨xf1,pf1,hcx,hp⟩
  have Ha:=hp.any
  have b1:w3.cell? ⟨w.heap.size,0,none⟩=some (.iface 123 (bp ib)):=Ha.drop.cells.1 0
  have b2:w3.cell? ⟨w.heap.size+1,0,none⟩=some (.int .i64 (-1)):=Ha.drop.drop.cells.1 0
  have HP:=Lib.hid (hp.imp_r (r':=CtxS xf1 pf1 (out 0).length::r) (fun L w H=>drop_mid H))
  have hcs:=ExPost.cases2 hp
  clear hp
  rcases hcs with ⟨v,rfl⟩ | ⟨pb,rfl⟩
  · go_wp2_with fail
    refine leaves_cons (f:=58) (args:=#[.pointer (some ⟨w.heap.size,0,none⟩),.pointer (some ⟨w.heap.size+1,0,none⟩)]) (by simp) (by simp [go_sem]) ?_
    refine (c58 b1 b2).mono ?_
    rintro e u' w'' ⟨rfl,rfl,rfl⟩
    exact ⟨v,by simp [results,Tryz.results42,go_sem],xf1,pf1,hcx,HP.out⟩
  · refine leaves_cons (f:=58) (args:=#[.pointer (some ⟨w.heap.size,0,none⟩),.pointer (some ⟨w.heap.size+1,0,none⟩)]) (by simp) (by simp [go_sem]) ?_
    refine (c58 b1 b2).mono ?_
    rintro e u' w'' ⟨rfl,rfl,rfl⟩
    exact ⟨xf1,pf1,hcx,HP.out⟩
end Go.Proofs.YtbcngfgemjdllaaGreatDoor
end
section
namespace Go.Proofs.YtbcngfgemjdllaaGreatDoor
open Go.RowKit Go.Own
variable {kd bk xf pf ru:Nat→Nat} {out:Nat→List Lx.Tr} {kindOf:Nat→Int} {stop:Nat→Bool} {B n N A at_ nr:Nat} {w0 w:World} {r:List HP} {X:HP} {P:List Lx.Cf→Prop}
theorem drop_two {r:List HP} {w:World} {L:List HP} {a b:HP} (H:St B w0 (L++(a::b::r)) w):St B w0 (L++r) w:=by
  have H2:St B w0 (r++L) w:=(H.perm List.perm_append_comm).drop.drop
  exact H2.perm List.perm_append_comm
set_option maxRecDepth 100000 in
set_option maxHeartbeats 2000000 in
theorem c42_next (hR:NetR kd bk out ru kindOf B w0 N at_ nr) (hst:∀ n,n<N→stop n=(kd n == 7)) (hcx:CtxX xf pf B w0 X A) (hX:X ∈ r) (hE:Env out n N A P) {l d pa ib cap pos ln col:Nat} {sa:Option Addr} {t:List Nat} {σ : Sim} {dps:List Value} {ats:Value} {dec:Int} {m:DM} {D:Lx.DS} {k:Nat} {p0 l0 k0:Int} {v0:Value}
    (ht:∀ c ∈ t,c≤127) (hl2:t.length<1073741824) (hσ : σ.at_=at_) (hnd:0 < σ.nd) (hd:dps[0]? = some (bp d)) (hpa : σ.pa=pa) (hm:DMok N A stop kindOf m D) (hs0:D.s0=some k) (inv:DInv P D (t.length - pos)) (hpos:pos≤t.length) (hln:ln+(t.length - pos)<1099511627776) (hcol:col+(t.length - pos)<1099511627776)
    (H:St B w0 (SimP l { σ with ln:=(ln:Int),col:=(col:Int) } dps::pts pa 234 (accC p0 l0 k0 v0)::ChP ib sa cap t pos::(DfaL kd bk xf pf d ats dec m++r)) w) :
    Calls Tryz.prog 42 #[bp l,.iface 123 (bp ib),.int .i64 0] w fun e w'=>ExPost kd bk xf pf B N A w0 r stop kindOf P l d pa ib cap sa t { σ with mc:=wrap64 (σ.mc+1),si:=pos } dps ats dec pos
      (Lx.runF hN hS out n stop (t.drop pos) (D.startD hN hS out n).1 (D.startD hN hS out n).2 pos ln col (if (Lx.accd stop ((D.startD hN hS out n).1.cfs (D.startD hN hS out n).2)).isSome then some ⟨pos,ln,col,(D.startD hN hS out n).2⟩ else none)) e w':=by
  obtain ⟨s,hk,hsi0⟩:∃ s,m.ms[k]? = some s∧m.s0=some s.sb:=by have h:=hm.s0; rw [hs0] at h; exact h
  have hstart:D.startD hN hS out n=(D,k):=by
    unfold Lx.DS.startD
    rw [hs0]
  rw [hstart]
  have hmf:∀ (fn:Fn) (first cap:Array Value) (w:World),(Instr.makeFunc fn first cap).run Tryz.prog w=.ok (.func fn first cap) w:=fun _ _ _ _=>rfl
  have l11:w.cell? ⟨l,11,none⟩=some (.int .i64 σ.mc):=H.split.cells.1 11
  have l9:w.cell? ⟨l,9,none⟩=some (.int .i64 0):=H.split.cells.1 9
  have l6:w.cell? ⟨l,6,none⟩=some (.int .i64 σ.si):=H.split.cells.1 6
  have l10:w.cell? ⟨l,10,none⟩=some (bp pa):=by rw [H.split.cells.1 10]; simp [Sim.cells,hpa]
  have lf:=H.split.cells.2
  have hllt:l<w.heap.size:=World.block_lt_of_cell? _ _ l9
  have hne : ¬ l=w.heap.size:=by omega
  obtain ⟨hi4,H7⟩:=pre42 (wrap64 (σ.mc+1)) H
  have hne1 : ¬ l=w.heap.size+1:=by omega
  have hib:=(ChP.cell (H.pick 2)).2.1
  have hil:ib<w.heap.size:=World.block_lt_of_cell? _ _ hib
  have hni : ¬ ib=w.heap.size:=by omega
  have hni1 : ¬ ib=w.heap.size+1:=by omega
  have HH:=Lib.hid H7
  have hnd0:(0:Int)<(σ.nd:Int):=by omega
  have hde:0<dps.length:=(List.getElem?_eq_some_iff.1 hd).1
  have h62:=fun w1 H=>c62 (xf:=xf) (pf:=pf) (w:=w1) (r:=pts w.heap.size 200 [.iface 123 (bp ib)]::pts (w.heap.size+1) 3 [.int .i64 (-1)]::r) (l:=l) (d:=d) (ib:=ib) (sa:=sa) (cap:=cap) (pos:=pos) (k:=k) (ln:=ln) (col:=col) (si:=pos) (s:=s) hR hst hcx (List.mem_cons_of_mem _ (List.mem_cons_of_mem _ hX)) hE (σ := { σ with mc:=wrap64 (σ.mc+1),si:=pos }) (dps:=dps) (ats:=ats) (dec:=dec) (m:=m) (D:=D) (p0 := -1) (l0:=0) (k0 := -1) ht hl2 hσ hnd hd hpa rfl hm inv hk hpos hln hcol H
  rw [cfs_of hm hk]
  generalize hRR:Lx.runF hN hS out n stop _ _ _ _ _ _ _=R at h62 ⊢
  have H62:=Lib.hid h62
  clear h62 hR hst hE hm hs0 inv H7 H hRR hcx hX
  go_enter_defers Tryz.func42,Tryz.ntmps42
  go_wp2_with (first
    | (go_at_call 278; refine c278.mono ?_; rintro e w' ⟨rfl,rfl⟩)
    | (go_at_call 43; refine (c43 ib (.int .i64 pos) _ ?_).mono ?_; (· exact hi4); rintro e w' ⟨rfl,rfl⟩)
    | (go_at_call 59; refine (c59 HH.out).mono ?_; rintro e w1 ⟨rfl,H8⟩
       have H8':=H8.pick 1
       have l2:=H8'.split.cells.1 2
       simp only [Sim.cells,List.getElem?_cons_succ,List.getElem?_cons_zero] at l2
       have ds0:=(H8'.split.pick 1).cells.1 0
       rw [hd] at ds0
       have d5:=(DfaL.c5 (H8.drop.drop.drop)).1
       rw [hsi0] at d5
       simp only [Option.map_some] at d5
       have bx:w1.cell? ⟨w.heap.size,0,none⟩=some (.iface 123 (bp ib)):=(St.dropL _ H8.drop.drop.drop).cells.1 0
       have H9:=Lib.hid H8'
       clear H8 H8')
    | (go_at_call 60; refine (c60 d _ _ d5).mono ?_; rintro e w' ⟨rfl,rfl⟩))
  go_at_call 62
  refine (H62.out _ H9.out).mono ?_
  rintro e w3 hp
  have Ha:=hp.any
  have b1:w3.cell? ⟨w.heap.size,0,none⟩=some (.iface 123 (bp ib)):=Ha.cells.1 0
  have b2:w3.cell? ⟨w.heap.size+1,0,none⟩=some (.int .i64 (-1)):=Ha.drop.cells.1 0
  have HP:=Lib.hid (hp.imp_r (r':=r) (fun L w H=>drop_two H))
  have hcs:=ExPost.cases2 hp
  clear hp
  rcases hcs with ⟨v,rfl⟩ | ⟨pb,rfl⟩
  · go_wp2_with fail
    refine leaves_cons (f:=58) (args:=#[.pointer (some ⟨w.heap.size,0,none⟩),.pointer (some ⟨w.heap.size+1,0,none⟩)]) (by simp) (by simp [go_sem]) ?_
    refine (c58 b1 b2).mono ?_
    rintro e u' w'' ⟨rfl,rfl,rfl⟩
    exact ⟨v,by simp [results,Tryz.results42,go_sem],HP.out⟩
  · refine leaves_cons (f:=58) (args:=#[.pointer (some ⟨w.heap.size,0,none⟩),.pointer (some ⟨w.heap.size+1,0,none⟩)]) (by simp) (by simp [go_sem]) ?_
    refine (c58 b1 b2).mono ?_
    rintro e u' w'' ⟨rfl,rfl,rfl⟩
    exact HP.out
end Go.Proofs.YtbcngfgemjdllaaGreatDoor
end
section
namespace Go.Proofs.YtbcngfgemjdllaaGreatDoor
open Go.RowKit Go.Own
variable {kd bk xf pf ru:Nat→Nat} {out:Nat→List Lx.Tr} {kindOf:Nat→Int} {stop:Nat→Bool} {B n N A at_ nr:Nat} {w0 w:World} {r:List HP} {X:HP} {P:List Lx.Cf→Prop}
def dm0:DM:=⟨[],[],[],.slice none 0 0,none,[],none,[]⟩
theorem DfaL0 {d:Nat} {ats:Value} {dec:Int} (H:St B w0 (pts d 159 (dfaC ats dec dm0)::r) w):St B w0 (DfaL kd bk xf pf d ats dec dm0++r) w:=by
  have H1:St B w0 (Osl (.slice none 0 0) 157 1 0 []::top::stars []::stars []::stars []::pts d 159 (dfaC ats dec dm0)::r) w :=
    St.ownNil (E:=157) (sz:=1) (H:=((H.nilStars).nilStars).nilStars.nilStars)
  exact H1.pick 5
set_option maxRecDepth 100000 in
theorem c38 {k b:Nat} {dec:Int} (hk:DOk k) (hp:k=10→w.cell? ⟨b,10,none⟩=some (.bool false)) (H:St B w0 r w) :
    Calls Tryz.prog 38 #[.iface (ty k) (bp b),.int .i64 dec] w fun e w'=>∃ d,e=.returned (bp d)∧St B w0 (pts d 159 (dfaC (.iface (ty k) (bp b)) dec dm0)::r) w':=by
  have H1:=H.alloc (ob 159 (dfaC (.iface (ty k) (bp b)) dec dm0))
  have hlt:k=10→b<w.heap.size:=fun e=>World.block_lt_of_cell? _ _ (hp e)
  have HH:=Lib.hid H1
  clear H H1
  have und:Tryz.prog.underlying 160=some (.pointer 171):=by kernel_rfl
  by_cases e:k=10
  · subst e
    replace hp:=hp rfl
    replace hlt:=hlt rfl
    have hty:ty 10=160:=rfl
    rw [hty] at HH ⊢
    have ha:∀ w:World,(Instr.typeAssert (.iface 160 (bp b)) 116 160 true).run Tryz.prog w=.ok (.tuple #[bp b,.bool true]) w:=fun w=>run_assert_hit und
    go_enter Tryz.func38,Tryz.ntmps38
    go_wp2_with fail
    go_ret
    exact ⟨_,rfl,HH.out⟩
  · have hne : ¬ ty k=160:=by rcases hk.is with rfl | rfl | rfl | rfl | rfl | rfl <;> first | decide | exact absurd rfl e
    have ha:∀ w:World,(Instr.typeAssert (.iface (ty k) (bp b)) 116 160 true).run Tryz.prog w=.ok (.tuple #[.pointer none,.bool false]) w:=fun w=>run_assert_miss und (by kernel_rfl) hne
    go_enter Tryz.func38,Tryz.ntmps38
    go_wp2_with fail
    go_ret
    exact ⟨_,rfl,HH.out⟩
theorem c56 (H:St B w0 r w):Calls Tryz.prog 56 #[] w fun e w'=>∃ pa,e=.returned (bp pa)∧St B w0 (pts pa 234 (accC (-1) 0 (-1) (.pointer none))::r) w':=by
  have H1:St B w0 (pts w.heap.size 234 (accC 0 0 0 (.pointer none))::r) _:=H.alloc (ob 234 (accC 0 0 0 (.pointer none)))
  have h71:=c71 H1
  have H71:=Lib.hid h71
  clear H H1 h71
  go_enter Tryz.func56,Tryz.ntmps56
  go_wp2_with (first | (go_at_call 71; refine H71.out.mono ?_; rintro e w1 ⟨rfl,H1⟩))
  go_ret
  exact ⟨_,rfl,H1⟩
theorem und236:∃ a b,Tryz.prog.underlying 236=some (.map a b):=⟨3,549,by kernel_rfl⟩
theorem run_makeMap3 (w:World):(Instr.makeMap 236 (some (.int .i64 1))).run Tryz.prog w=.ok (.map (some w.heap.size)) (w.alloc (.map #[] 0)):=by
  obtain ⟨a,b,h⟩:=und236
  simp [Instr.makeMap,run_underlying h,asInt,asIntOf]
set_option maxRecDepth 100000 in
theorem c40 (H:St B w0 r w):Calls Tryz.prog 40 #[] w fun e w'=>∃ c,e=.returned (bp c)∧St B w0 r w':=by
  have HH:=Lib.hid H
  clear H
  have hm:=run_makeMap3
  go_enter Tryz.func40,Tryz.ntmps40
  go_wp2
  go_ret
  exact ⟨_,rfl,(((HH.out.alloc _).alloc _).alloc _).alloc _ |>.drop.drop.drop.drop⟩
set_option maxRecDepth 100000 in
theorem c39 {lx c g nd cd:Nat} (H:St B w0 r w):Calls Tryz.prog 39 #[.iface 102 (bp lx),bp at_,.slice (some ⟨g,0,none⟩) nd cd,bp c] w fun e w'=>∃ l pa,e=.returned (bp l)∧St B w0 (pts l 186 (Sim.cells ⟨at_,bp c,g,nd,cd,.iface 102 (bp lx),-1,1,0,pa,0⟩)::pts pa 234 (accC (-1) 0 (-1) (.pointer none))::r) w':=by
  have H1:St B w0 (pts w.heap.size 186 (Sim.cells ⟨at_,bp c,g,nd,cd,.iface 102 (bp lx),-1,1,0,0,0⟩ |>.set 10 (.pointer none))::r) _:=H.alloc (ob 186 _)
  have HH:=Lib.hid H1
  have hh:=fun pa=>Lib.hid (show (Sim.cells ⟨at_,bp c,g,nd,cd,.iface 102 (bp lx),-1,1,0,pa,0⟩=((Sim.cells ⟨at_,bp c,g,nd,cd,.iface 102 (bp lx),-1,1,0,0,0⟩ |>.set 10 (.pointer none))).set 10 (bp pa)) from rfl)
  clear H H1
  go_enter Tryz.func39,Tryz.ntmps39
  go_wp2_with (first
    | (go_at_call 56; refine (c56 HH.out).mono ?_; rintro e w1 ⟨pa,rfl,H2⟩
       have H3:=(H2.pick 1)
       have x10:w1.cell? ⟨w.heap.size,10,none⟩=some (.pointer none):=H3.cells.1 10
       have f10:=H3.cells.2 10
       have H4:=H3.setCell (off:=10) (bp pa)
       have H5:=Lib.hid H4
       clear H2 H3 H4))
  go_ret
  refine ⟨w.heap.size,pa,rfl,?_⟩
  rw [(hh pa).out]
  exact H5.out
end Go.Proofs.YtbcngfgemjdllaaGreatDoor
end
