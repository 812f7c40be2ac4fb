/- Part 25: D45, D46, D47, D48. -/
import Derived.StillTailTactics
import Derived.Test.YtbcngfgemjdllaaGreatDoorB24
set_option linter.unusedVariables false
set_option linter.unusedSimpArgs false
section
namespace Go.Proofs.YtbcngfgemjdllaaGreatDoor
open Go.RowKit Go.Own
variable {kd bk xf pf ru:Nat→Nat} {out:Nat→List Lx.Tr} {kindOf:Nat→Int} {stop:Nat→Bool} {B n N A at_ nr:Nat} {w0 w:World} {r:List HP} {X:HP} {m:DM} {D:Lx.DS} {s:SM} {d:Nat} {ats:Value} {dec:Int} {P:List Lx.Cf→Prop}
theorem stepD_e {k c:Nat} {r':Option Nat} (h:D.edges k c=some r'):D.stepD hN hS out n k c=(D,r'):=by unfold Lx.DS.stepD; rw [h]
theorem stepD_n {k c:Nat} (h:D.edges k c=none) (hz:(Lx.adds hN ⟨[],[]⟩ (Lx.rch1 out n (D.cfs k) c)).cf=[]):D.stepD hN hS out n k c=(D.setE k c none,none):=by unfold Lx.DS.stepD; rw [h]; simp only [hz,if_true]
theorem stepD_s {k c:Nat} (h:D.edges k c=none) (hz:(Lx.adds hN ⟨[],[]⟩ (Lx.rch1 out n (D.cfs k) c)).cf≠[]):D.stepD hN hS out n k c =
    ((D.addS hS (Lx.adds hN ⟨[],[]⟩ (Lx.rch1 out n (D.cfs k) c))).1.setE k c (some (D.addS hS (Lx.adds hN ⟨[],[]⟩ (Lx.rch1 out n (D.cfs k) c))).2),some (D.addS hS (Lx.adds hN ⟨[],[]⟩ (Lx.rch1 out n (D.cfs k) c))).2):=by
  unfold Lx.DS.stepD; rw [h]; simp only [if_neg hz]
structure ErrSt (kd bk xf pf:Nat→Nat) (B N A:Nat) (w0:World) (r:List HP) (stop:Nat→Bool) (kindOf:Nat→Int) (P:List Lx.Cf→Prop) (l d pa ib cap:Nat) (sa:Option Addr) (t:List Nat) (σ : Sim) (dps:List Value) (ats:Value) (dec:Int) (R:Lx.DS × Option Lx.AccR × Nat × Bool) (pos ln col:Nat) (acc:Option Lx.AccR) (s:SM) (p0 l0 k0:Int) (v0:Value) (fl:Bool) (e0:Nat) (m:DM) (D:Lx.DS) (w:World):Prop where
  hm:DMok N A stop kindOf m D
  inv:∃ more,DInv P D more
  hacc:AccIs stop m p0 l0 k0 v0 acc
  run:(D,acc,pos,fl)=R
  st:St B w0 (SimP l { σ with ln:=(ln:Int),col:=(col:Int) } dps::pts pa 234 (accC p0 l0 k0 v0)::ChP ib sa cap t pos::(DfaL kd bk xf pf d ats dec m++r)) w
  e:w.cell? ⟨e0,0,none⟩=some (.int .i64 2147483647)
  sb:w.cell? ⟨s.sb,1,none⟩=some (bp s.b)
structure OkSt (kd bk xf pf:Nat→Nat) (B N A:Nat) (w0:World) (r:List HP) (stop:Nat→Bool) (kindOf:Nat→Int) (P:List Lx.Cf→Prop) (out:Nat→List Lx.Tr) (n:Nat) (l d pa ib cap:Nat) (sa:Option Addr) (t:List Nat) (σ : Sim) (dps:List Value) (ats:Value) (dec:Int) (R:Lx.DS × Option Lx.AccR × Nat × Bool) (c pos ln col:Nat) (acc:Option Lx.AccR) (p0 l0 k0:Int) (v0:Value) (m:DM) (D:Lx.DS) (k:Nat) (x:SM) (w:World):Prop where
  hm:DMok N A stop kindOf m D
  inv:DInv P D (t.length - (pos+1))
  hk:m.ms[k]? = some x
  hacc:AccIs stop m p0 l0 k0 v0 acc
  run:Lx.runF hN hS out n stop (t.drop (pos+1)) D k (pos+1) (Lx.moved ln col c).1 (Lx.moved ln col c).2 (if (Lx.accd stop x.L).isSome then some ⟨pos+1,(Lx.moved ln col c).1,(Lx.moved ln col c).2,k⟩ else acc)=R
  st:St B w0 (SimP l { σ with ln:=(ln:Int),col:=(col:Int) } dps::pts pa 234 (accC p0 l0 k0 v0)::ChP ib sa cap t pos::(DfaL kd bk xf pf d ats dec m++r)) w
theorem sb_of {l pa ib cap pos k:Nat} {sa:Option Addr} {t:List Nat} {σ : Sim} {dps pv:List Value} (hk:m.ms[k]? = some s) (H:St B w0 (SimP l σ dps::pts pa 234 pv::ChP ib sa cap t pos::(DfaL kd bk xf pf d ats dec m++r)) w):(∀ o,w.cell? ⟨s.sb,o,none⟩=s.cells[o]?):=(DfaL.state hk H.drop.drop.drop).1
variable {l pa ib cap pos k ln col c e0:Nat} {sa:Option Addr} {t:List Nat} {σ : Sim} {dps:List Value} {acc:Option Lx.AccR} {p0 l0 k0:Int} {v0:Value} {R:Lx.DS × Option Lx.AccR × Nat × Bool}
theorem err_old (h:RunSt kd bk xf pf B N A w0 r stop kindOf P out n l d pa ib cap sa t σ dps ats dec R m D k pos ln col acc s p0 l0 k0 v0 w) (hc:t[pos]? = some c) (he:D.edges k c=some none) (he0:e0 ∈ m.er) :
    ErrSt kd bk xf pf B N A w0 r stop kindOf P l d pa ib cap sa t σ dps ats dec R pos ln col acc s p0 l0 k0 v0 false e0 m D w :=
  ⟨h.hm,⟨_,h.inv⟩,h.hacc,by rw [← h.run,runF_none hc (by rw [stepD_e he]),stepD_e he],h.st,DfaL.errCell he0 h.st.drop.drop.drop,by rw [sb_of h.hk h.st]; rfl⟩
theorem err_new {m':DM} {w':World} (h:RunSt kd bk xf pf B N A w0 r stop kindOf P out n l d pa ib cap sa t σ dps ats dec R m D k pos ln col acc s p0 l0 k0 v0 w) (hc:t[pos]? = some c) (he:D.edges k c=none) (hz:(Lx.adds hN ⟨[],[]⟩ (Lx.rch1 out n s.L c)).cf=[]) (hm':DMok N A stop kindOf m' (D.setE k c none)) (hg:∀ (j:Nat) (x:SM),m.ms[j]? = some x→∃ y,m'.ms[j]? = some y∧Alike x y)
    (he0:w'.cell? ⟨e0,0,none⟩=some (.int .i64 2147483647)) (H:St B w0 (DfaL kd bk xf pf d ats dec m'++(SimP l { σ with ln:=(ln:Int),col:=(col:Int) } dps::pts pa 234 (accC p0 l0 k0 v0)::ChP ib sa cap t pos::r)) w') (hsb:w'.cell? ⟨s.sb,1,none⟩=some (bp s.b)) :
    ErrSt kd bk xf pf B N A w0 r stop kindOf P l d pa ib cap sa t σ dps ats dec R pos ln col acc s p0 l0 k0 v0 false e0 m' (D.setE k c none) w':=by
  have hcf:=cfs_of h.hm h.hk
  rw [← hcf] at hz
  exact ⟨hm',⟨_,h.inv.setE⟩,h.hacc.grow hg,by rw [← h.run,runF_none hc (by rw [stepD_n he hz]),stepD_n he hz],H.perm perm3.symm,he0,hsb⟩
theorem err_end {w':World} (h:RunSt kd bk xf pf B N A w0 r stop kindOf P out n l d pa ib cap sa t σ dps ats dec R m D k pos ln col acc s p0 l0 k0 v0 w) (hc:t[pos]? = none) (he0:w'.cell? ⟨e0,0,none⟩=some (.int .i64 2147483647))
    (H:St B w0 (DfaL kd bk xf pf d ats dec m++(SimP l { σ with ln:=(ln:Int),col:=(col:Int) } dps::pts pa 234 (accC p0 l0 k0 v0)::ChP ib sa cap t pos::r)) w') :
    ErrSt kd bk xf pf B N A w0 r stop kindOf P l d pa ib cap sa t σ dps ats dec R pos ln col acc s p0 l0 k0 v0 true e0 m D w':=by
  have H1:=H.perm (perm3 (a:=SimP l { σ with ln:=(ln:Int),col:=(col:Int) } dps) (b:=pts pa 234 (accC p0 l0 k0 v0)) (c:=ChP ib sa cap t pos)).symm
  exact ⟨h.hm,⟨_,h.inv⟩,h.hacc,by rw [← h.run,runF_end hc],H1,he0,by rw [sb_of h.hk H1]; rfl⟩
theorem ok_old {k':Nat} {x:SM} (h:RunSt kd bk xf pf B N A w0 r stop kindOf P out n l d pa ib cap sa t σ dps ats dec R m D k pos ln col acc s p0 l0 k0 v0 w) (hc:t[pos]? = some c) (he:D.edges k c=some (some k')) (hx:m.ms[k']? = some x) :
    OkSt kd bk xf pf B N A w0 r stop kindOf P out n l d pa ib cap sa t σ dps ats dec R c pos ln col acc p0 l0 k0 v0 m D k' x w:=by
  refine ⟨h.hm,h.inv.less (by omega),hx,h.hacc,?_,h.st⟩
  have:=h.run
  rw [runF_some hc (k':=k') (by rw [stepD_e he]),stepD_e he] at this
  simp only [cfs_of h.hm hx] at this
  exact this
theorem ok_new {p:Nat} {w':World} (hE:Env out n N A P) (h:RunSt kd bk xf pf B N A w0 r stop kindOf P out n l d pa ib cap sa t σ dps ats dec R m D k pos ln col acc s p0 l0 k0 v0 w) (hc:t[pos]? = some c) (he:D.edges k c=none) (hz:(Lx.adds hN ⟨[],[]⟩ (Lx.rch1 out n s.L c)).cf≠[])
    (H:StepPost kd bk xf pf B N A w0 (pts pa 234 (accC p0 l0 k0 v0)::ChP ib sa cap t pos::r) m stop kindOf l d { σ with ln:=(ln:Int),col:=(col:Int) } dps ats dec ((D.addS hS (Lx.adds hN ⟨[],[]⟩ (Lx.rch1 out n s.L c))).1.setE k c (some (D.addS hS (Lx.adds hN ⟨[],[]⟩ (Lx.rch1 out n s.L c))).2)) (D.addS hS (Lx.adds hN ⟨[],[]⟩ (Lx.rch1 out n s.L c))).2 p w') :
    ∃ m' D' k' x,p=x.sb∧OkSt kd bk xf pf B N A w0 r stop kindOf P out n l d pa ib cap sa t σ dps ats dec R c pos ln col acc p0 l0 k0 v0 m' D' k' x w':=by
  obtain ⟨m',x,h1,h2,h3,h4,h5⟩:=H
  have hcf:=cfs_of h.hm h.hk
  have hlt:=(List.getElem?_eq_some_iff.1 hc).1
  have hz':=hz
  rw [← hcf] at hz'
  have hP:P s.L:=h.inv.P _ (by rw [h.hm.sts]; exact List.mem_map_of_mem (List.mem_of_getElem? h.hk))
  refine ⟨m',_,_,x,h3.symm,h1,?_,h2,h.hacc.grow h5,?_,h4.perm perm2.symm⟩
  · refine DInv.setE (addS_inv (more:=t.length - (pos+1)) ?_ (hE.keep _ hP _))
    rw [show t.length - (pos+1)+1=t.length - pos from by omega]
    exact h.inv
  · have:=h.run
    rw [runF_some hc (k':=(D.addS hS (Lx.adds hN ⟨[],[]⟩ (Lx.rch1 out n s.L c))).2) (by rw [stepD_s he hz',hcf]),stepD_s he hz',hcf] at this
    simp only [cfs_of h1 h2] at this
    exact this
end Go.Proofs.YtbcngfgemjdllaaGreatDoor
end
section
namespace Go.Proofs.YtbcngfgemjdllaaGreatDoor
open Go.RowKit Go.Own
variable {kd bk xf pf ru:Nat→Nat} {out:Nat→List Lx.Tr} {kindOf:Nat→Int} {stop:Nat→Bool} {B n N A at_ nr:Nat} {w0 w:World} {r:List HP} {X:HP} {m:DM} {D:Lx.DS} {s:SM} {d:Nat} {ats:Value} {dec:Int} {P:List Lx.Cf→Prop}
variable {l pa ib cap pos k ln col c e0:Nat} {sa:Option Addr} {t:List Nat} {σ : Sim} {dps:List Value} {acc:Option Lx.AccR} {p0 l0 k0:Int} {v0:Value} {R:Lx.DS × Option Lx.AccR × Nat × Bool}
theorem c79_all {si:Nat} {fl:Bool} {ch:Int} {v:Value} (h:ErrSt kd bk xf pf B N A w0 r stop kindOf P l d pa ib cap sa t σ dps ats dec R pos ln col acc s p0 l0 k0 v0 fl e0 m D w) (hpa : σ.pa=pa) (hsi : σ.si=(si:Int)) (hpos:pos≤t.length) (haccp:∀ a,acc=some a→a.pos≤t.length)
    (hch:(fl=true∧ch = -1)∨(fl=false∧0≤ch)) :
    Calls Tryz.prog 79 #[bp l,bp pa,.iface 123 (bp ib),v,.int .i64 ch] w fun e w'=>ExPost kd bk xf pf B N A w0 r stop kindOf P l d pa ib cap sa t σ dps ats dec si R e w':=by
  have hrun:=h.run
  subst hrun
  cases acc with
  | some a =>
    obtain ⟨s',h1,h2,rfl,rfl,rfl,rfl⟩:=h.hacc
    have hap:=haccp a rfl
    refine (c79_acc (σ := { σ with ln:=(ln:Int),col:=(col:Int) }) hpa hap h1 h.st).mono ?_
    rintro e w' ⟨rfl,H⟩
    obtain ⟨x,hx⟩:=Option.isSome_iff_exists.1 h2
    have hpred:=(h.hm.acc s' (List.mem_of_getElem? h1)).2 x hx
    refine ⟨m,_,_,_,_,h.hm,h.inv,hap,?_,H⟩
    simp only [cfs_of h.hm h1,hx,Option.getD_some,hpred]
  | none =>
    have hv:v0=.pointer none:=h.hacc
    subst hv
    by_cases hf:fl=true∧pos=si
    · obtain ⟨hf1,hf2⟩:=hf
      obtain ⟨_,rfl⟩:fl=true∧ch = -1:=by
        rcases hch with hch | hch
        · exact hch
        · rw [hf1] at hch; cases hch.1
      refine (c79_eof (σ := { σ with ln:=(ln:Int),col:=(col:Int) }) hpa (by rw [hf2]; exact hsi) h.st).mono ?_
      rintro e w' ⟨rfl,q,rfl⟩
      exact ⟨m,p0,l0,k0,.pointer none,h.hm,h.inv,hpos,(ln:Int),(col:Int),.inl ⟨hf1,hf2,rfl,h.st.drewN q⟩⟩
    · have hb:(fl && pos == si)=false:=by
        rw [Bool.and_eq_false_iff]
        cases fl with
        | false=>exact .inl rfl
        | true=>right; rw [beq_eq_false_iff_ne]; exact fun e=>hf ⟨rfl,e⟩
      refine (c79_fail (σ := { σ with ln:=(ln:Int),col:=(col:Int) }) hpa (fun e => ?_) h.st).mono ?_
      · rw [beq_eq_false_iff_ne]
        intro e2
        rcases hch with hch | hch
        · exact hf ⟨hch.1,by rw [hsi] at e2; exact_mod_cast e2⟩
        · omega
      · rintro e w' ⟨pb,rfl,H⟩
        refine ⟨m,p0,l0,k0,.pointer none,h.hm,h.inv,hpos,(ln:Int),(col:Int),.inr ⟨hb,pb,rfl,?_⟩⟩
        rw [← hsi]
        exact H
end Go.Proofs.YtbcngfgemjdllaaGreatDoor
end
section
namespace Go.Proofs.YtbcngfgemjdllaaGreatDoor
open Go.RowKit Go.Own
variable {kd bk xf pf ru:Nat→Nat} {out:Nat→List Lx.Tr} {kindOf:Nat→Int} {stop:Nat→Bool} {B n N A at_ nr:Nat} {w0 w:World} {r:List HP} {X:HP} {m:DM} {D:Lx.DS} {s:SM} {d:Nat} {ats:Value} {dec:Int} {P:List Lx.Cf→Prop}
variable {l pa ib cap pos k ln col c e0:Nat} {sa:Option Addr} {t:List Nat} {σ : Sim} {dps:List Value} {acc:Option Lx.AccR} {p0 l0 k0:Int} {v0:Value} {R:Lx.DS × Option Lx.AccR × Nat × Bool}
def ExRel (kd bk xf pf:Nat→Nat) (B N A:Nat) (w0:World) (r:List HP) (stop:Nat→Bool) (kindOf:Nat→Int) (P:List Lx.Cf→Prop) (out:Nat→List Lx.Tr) (n:Nat) (l d pa ib cap:Nat) (sa:Option Addr) (t:List Nat) (σ : Sim) (dps:List Value) (ats:Value) (dec:Int) (R:Lx.DS × Option Lx.AccR × Nat × Bool) (c cur:Value) (wr:World):Prop :=
  ∃ m D k pos ln col acc s p0 l0 k0 v0,c=.int .i64 (la t pos)∧cur=bp s.sb∧RunSt kd bk xf pf B N A w0 r stop kindOf P out n l d pa ib cap sa t σ dps ats dec R m D k pos ln col acc s p0 l0 k0 v0 wr
theorem ErrSt.drew {fl:Bool} (h:ErrSt kd bk xf pf B N A w0 r stop kindOf P l d pa ib cap sa t σ dps ats dec R pos ln col acc s p0 l0 k0 v0 fl e0 m D w):ErrSt kd bk xf pf B N A w0 r stop kindOf P l d pa ib cap sa t σ dps ats dec R pos ln col acc s p0 l0 k0 v0 fl e0 m D w.drew :=
  ⟨h.hm,h.inv,h.hacc,h.run,h.st.drew,h.e,h.sb⟩
theorem ExPost.cases {si:Nat} {e:Ending} (h:ExPost kd bk xf pf B N A w0 r stop kindOf P l d pa ib cap sa t σ dps ats dec si R e w):(∃ v,e=.returned v)∨∃ ch,e=.panicked ch:=by
  obtain ⟨m',p0,l0,k0,v0,h1,h2,h3⟩:=h
  cases hR:R.2.1 with
  | some a=>rw [hR] at h3; exact .inl ⟨_,h3.2.1⟩
  | none =>
    rw [hR] at h3
    obtain ⟨_,ln,col,h | h⟩:=h3
    · exact .inl ⟨_,h.2.2.1⟩
    · obtain ⟨_,pb,h,_⟩:=h; exact .inr ⟨_,h⟩
theorem posOf_st (H:St B w0 (SimP l σ dps::pts pa 234 (accC p0 l0 k0 v0)::ChP ib sa cap t pos::r) w):posOf ib w=pos:=by
  unfold posOf
  rw [(ChP.cell (H.pick 2)).2.1]
  simp
theorem run_next {m':DM} {D':Lx.DS} {k':Nat} {x:SM} {p1 l1 k1:Int} {v1:Value} {w':World} (h:OkSt kd bk xf pf B N A w0 r stop kindOf P out n l d pa ib cap sa t σ dps ats dec R c pos ln col acc p0 l0 k0 v0 m' D' k' x w) (hlt:pos<t.length) (hln:ln+(t.length - pos)<1099511627776) (hcol:col+(t.length - pos)<1099511627776)
    (haccp:∀ a,acc=some a→a.pos≤t.length)
    (hv:((Lx.accd stop x.L).isSome=true∧p1=((pos+1:Nat):Int)∧l1=((Lx.moved ln col c).1:Int)∧k1=((Lx.moved ln col c).2:Int)∧v1=bp x.sb)∨((Lx.accd stop x.L).isSome=false∧p1=p0∧l1=l0∧k1=k0∧v1=v0))
    (H:St B w0 (SimP l { σ with ln:=((Lx.moved ln col c).1:Int),col:=((Lx.moved ln col c).2:Int) } dps::pts pa 234 (accC p1 l1 k1 v1)::ChP ib sa cap t (pos+1)::(DfaL kd bk xf pf d ats dec m'++r)) w') :
    ∃ acc',RunSt kd bk xf pf B N A w0 r stop kindOf P out n l d pa ib cap sa t σ dps ats dec R m' D' k' (pos+1) (Lx.moved ln col c).1 (Lx.moved ln col c).2 acc' x p1 l1 k1 v1 w':=by
  have hmv:=moved_le ln col c
  have hrun:=h.run
  rcases hv with ⟨g1,rfl,rfl,rfl,rfl⟩ | ⟨g1,rfl,rfl,rfl,rfl⟩
  · rw [g1,if_pos rfl] at hrun
    exact ⟨some ⟨pos+1,(Lx.moved ln col c).1,(Lx.moved ln col c).2,k'⟩,h.hm,h.inv,h.hk,hlt,by omega,by omega,⟨x,h.hk,g1,rfl,rfl,rfl,rfl⟩,fun a e=>by cases e; exact hlt,hrun,H⟩
  · rw [g1] at hrun
    simp only [Bool.false_eq_true,if_false] at hrun
    exact ⟨_,h.hm,h.inv,h.hk,hlt,by omega,by omega,h.hacc,haccp,hrun,H⟩
end Go.Proofs.YtbcngfgemjdllaaGreatDoor
end
section
namespace Go.Proofs.YtbcngfgemjdllaaGreatDoor
open Go.RowKit Go.Own
variable {kd bk xf pf ru:Nat→Nat} {out:Nat→List Lx.Tr} {kindOf:Nat→Int} {stop:Nat→Bool} {B n N A at_ nr:Nat} {w0 w:World} {r:List HP} {X:HP} {P:List Lx.Cf→Prop}
set_option maxRecDepth 100000 in
set_option maxHeartbeats 4000000 in
theorem c62 (hR : NetR kd bk out ru kindOf B w0 N at_ nr) (hst : ∀ n, n < N → stop n = (kd n == 7)) (hcx : CtxX xf pf B w0 X A) (hX : X ∈ r) (hE : Env out n N A P) {l d pa ib cap pos k ln col si : Nat} {sa : Option Addr} {t : List Nat} {σ : Sim} {dps : List Value} {ats : Value} {dec : Int} {m : DM} {D : Lx.DS} {s : SM} {p0 l0 k0 : Int}
    (ht:∀ c ∈ t,c≤127) (hl2:t.length<1073741824) (hσ : σ.at_=at_) (hnd:0 < σ.nd) (hd:dps[0]? = some (bp d)) (hpa : σ.pa=pa) (hsi : σ.si=(si:Int)) (hm:DMok N A stop kindOf m D) (inv:DInv P D (t.length - pos)) (hk:m.ms[k]? = some s) (hpos:pos≤t.length) (hln:ln+(t.length - pos)<1099511627776) (hcol:col+(t.length - pos)<1099511627776)
    (H:St B w0 (SimP l { σ with ln:=(ln:Int),col:=(col:Int) } dps::pts pa 234 (accC p0 l0 k0 (.pointer none))::ChP ib sa cap t pos::(DfaL kd bk xf pf d ats dec m++r)) w) :
    Calls Tryz.prog 62 #[bp l,.iface 123 (bp ib),bp s.sb] w fun e w'=>ExPost kd bk xf pf B N A w0 r stop kindOf P l d pa ib cap sa t σ dps ats dec si
      (Lx.runF hN hS out n stop (t.drop pos) D k pos ln col (if (Lx.accd stop s.L).isSome then some ⟨pos,ln,col,k⟩ else none)) e w':=by
  generalize hRR:Lx.runF hN hS out n stop (t.drop pos) D k pos ln col (if (Lx.accd stop s.L).isSome then some ⟨pos,ln,col,k⟩ else none)=R
  have hl2:t.length<1099511627776:=by omega
  have s3:w.cell? ⟨s.sb,3,none⟩=some (.bool s.acc):=by rw [sb_of hk H]; rfl
  have l10:w.cell? ⟨l,10,none⟩=some (bp pa):=by rw [H.split.cells.1 10]; simp [Sim.cells,hpa]
  have hsacc:=(hm.acc s (List.mem_of_getElem? hk)).1
  have HR:=Lib.hid hR
  have Hst:=Lib.hid hst
  have Hcx:=Lib.hid hcx
  have HEn:=Lib.hid hE
  have h277:=c277 ht hpos hl2 (H.pick 2)
  have H277:=Lib.hid h277
  have HH:=Lib.hid H
  have Hm0:=Lib.hid hm
  have Hi0:=Lib.hid inv
  have Hk0:=Lib.hid hk
  have HRR:=Lib.hid hRR
  clear hR hst hcx hE H h277 hm inv hk hRR
  go_enter Tryz.func62,Tryz.ntmps62
  cases hsa:s.acc
  all_goals
    rw [hsa] at s3 hsacc
    have Hsacc:=Lib.hid hsacc
    clear hsacc
    go_wp2_with (first
      | (go_at_call 74; refine (c74 HH.out).mono ?_; rintro e w4 ⟨rfl,H6⟩
         have h277:=c277 ht (by omega) hl2 (H6.pick 2)
         have H277:=Lib.hid h277
         have HH:=Lib.hid H6
         clear H6 h277)
      | (go_at_call 277; refine H277.out.mono ?_; rintro e w' ⟨rfl,rfl⟩))
    go_loopw [7,8] (ExRel kd bk xf pf B N A w0 r stop kindOf P out n l d pa ib cap sa t σ dps ats dec R) (fun _ _ wr=>t.length+1 - posOf ib wr)
    case atStart =>
      first
        | exact ⟨m,D,k,pos,ln,col,none,s,_,_,_,_,rfl,rfl,⟨Hm0.out,Hi0.out,Hk0.out,hpos,hln,hcol,rfl,fun a e=>(by cases e),by have:=HRR.out; rw [← Hsacc.out] at this; simpa using this,HH.out⟩⟩
        | exact ⟨m,D,k,pos,ln,col,some ⟨pos,ln,col,k⟩,s,_,_,_,_,rfl,rfl,⟨Hm0.out,Hi0.out,Hk0.out,hpos,hln,hcol,⟨s,Hk0.out,Hsacc.out.symm,rfl,rfl,rfl,rfl⟩,fun a e=>(by cases e; exact hpos),by have:=HRR.out; rw [← Hsacc.out] at this; simpa using this,HH.out⟩⟩
    case round =>
      clear HH H277 Hm0 Hi0 Hk0 HRR s3 l10 Hsacc hsa hpos hln hcol
      obtain ⟨m,D,k,pos,ln,col,acc,s,p0,l0,k0,v0,rfl,rfl,hrs⟩:=hrel
      have hpos:=hrs.hpos
      have hln:=hrs.hln
      have hcol:=hrs.hcol
      have Haccp:=Lib.hid hrs.accp
      have Hpos:=Lib.hid (posOf_st hrs.st)
      have hkL:=hrs.hm.okL s (.inl (List.mem_of_getElem? hrs.hk))
      have hP:P s.L:=hrs.inv.P _ (by rw [hrs.hm.sts]; exact List.mem_map_of_mem (List.mem_of_getElem? hrs.hk))
      have hsL:=hkL.2.2.2.1
      have haq:m.aq.length+1<1099511627776:=by have h1:=hrs.inv.al; rw [hrs.hm.asked,List.length_map] at h1; omega
      have hms:m.ms.length<1099511627776:=by have h1:=hrs.inv.sl; rw [hrs.hm.sts,List.length_map] at h1; omega
      have HD:St B w0 (DfaL kd bk xf pf d ats dec m++(SimP l { σ with ln:=(ln:Int),col:=(col:Int) } dps::pts pa 234 (accC p0 l0 k0 v0)::ChP ib sa cap t pos::r)) wr:=hrs.st.perm perm3
      have Hrs:=Lib.hid hrs
      clear hrs hkL
      cases hc:t[pos]? with
      | none =>
        have hla:la t pos = -1:=by unfold la; rw [hc]
        rw [hla]
        have h76:=c76_neg (l:=l) (iv:=.iface 123 (bp ib)) HR.out Hcx.out (by simp [hX]) HEn.out Hrs.out.hk hP hsL HD
        have H76:=Lib.hid h76
        clear h76 HD
        go_wp2_with (first
          | (go_at_call 75; refine (c75_neg (by decide)).mono ?_; rintro e w' ⟨rfl,rfl⟩)
          | (go_at_call 76; refine H76.out.mono ?_; rintro e wE ⟨e0,rfl,hee,hH⟩
             have HE:=Lib.hid (err_end Hrs.out hc hee hH)
             clear hee hH))
        have E0:=HE.out.e
        have l10:wE.cell? ⟨l,10,none⟩=some (bp pa):=by rw [HE.out.st.split.cells.1 10]; simp [Sim.cells,hpa]
        have s1:=HE.out.sb
        go_wp2_with (first
          | (go_at_call 77; refine (c77 E0).mono ?_; rintro e w' ⟨rfl,rfl⟩))
        refine wp_region_still_tail 11 (by kernel_rfl) (by kernel_rfl) ?_
        simp only [List.take_succ_cons,List.take_zero,List.drop_succ_cons,List.drop_zero]
        have l10':(wE.drew).cell? ⟨l,10,none⟩=some (bp pa):=l10
        have s1':(wE.drew).cell? ⟨s.sb,1,none⟩=some (bp s.b):=s1
        have HE':=HE.out.drew
        change wpStill Tryz.prog _ (wE.drew) (fun a'=>wpList Tryz.prog _ _ _ a' (wE.drew)) _ _
        generalize wE.drew=W at l10' s1' HE' ⊢
        have H79:=Lib.hid (c79_all (v:=bp s.b) (ch := -1) HE' hpa hsi hpos Haccp.out (.inl ⟨rfl,rfl⟩))
        clear HE' HE E0 l10 s1
        still_step
        still_step
        still_step
        still_step
        still_step
        still_step
        still_step
        still_step
        still_step
        still_step
        still_step
        refine wpStill_nil ?_
        go_wp2_with fail
        go_at_call 79
        refine H79.out.mono ?_
        rintro e w' hp
        rcases ExPost.cases hp with ⟨v,rfl⟩ | ⟨ch,rfl⟩
        · go_wp2_with fail
          go_ret
          exact hp
        · exact ⟨rfl,hp⟩
      | some c =>
        have hla:la t pos=(c:Int):=by unfold la; rw [hc]
        rw [hla]
        have hc7:=ht c (List.mem_of_getElem? hc)
        have hlt':=(List.getElem?_eq_some_iff.1 hc).1
        have h75:=c75 (l:=l) Hrs.out.hm Hrs.out.hk hc7 HD
        have H75:=Lib.hid h75
        clear h75
        cases hed:D.edges k c with
        | some r' =>
          cases r' with
          | none =>
            obtain ⟨wE,hwE⟩:∃ wE,wE=wr:=⟨_,rfl⟩
            go_wp2_with (first
              | (go_at_call 75; refine H75.out.mono ?_; rintro e w' ⟨⟨v,rfl,hv⟩,rfl⟩
                 rw [hed] at hv
                 obtain ⟨e0,he0,rfl⟩:=hv
                 have HE:=Lib.hid (err_old Hrs.out hc hed he0)))
            subst hwE
            have E0:=HE.out.e
            have l10:wE.cell? ⟨l,10,none⟩=some (bp pa):=by rw [HE.out.st.split.cells.1 10]; simp [Sim.cells,hpa]
            have s1:=HE.out.sb
            go_wp2_with (first
              | (go_at_call 77; refine (c77 E0).mono ?_; rintro e w' ⟨rfl,rfl⟩))
            refine wp_region_still_tail 11 (by kernel_rfl) (by kernel_rfl) ?_
            simp only [List.take_succ_cons,List.take_zero,List.drop_succ_cons,List.drop_zero]
            have l10':(wE.drew).cell? ⟨l,10,none⟩=some (bp pa):=l10
            have s1':(wE.drew).cell? ⟨s.sb,1,none⟩=some (bp s.b):=s1
            have HE':=HE.out.drew
            change wpStill Tryz.prog _ (wE.drew) (fun a'=>wpList Tryz.prog _ _ _ a' (wE.drew)) _ _
            generalize wE.drew=W at l10' s1' HE' ⊢
            have H79:=Lib.hid (c79_all (v:=bp s.b) (ch:=(c:Int)) HE' hpa hsi hpos Haccp.out (.inr ⟨rfl,Int.natCast_nonneg _⟩))
            clear HE' HE E0 l10 s1
            still_step
            still_step
            still_step
            still_step
            still_step
            still_step
            still_step
            still_step
            still_step
            still_step
            still_step
            refine wpStill_nil ?_
            go_wp2_with fail
            go_at_call 79
            refine H79.out.mono ?_
            rintro e w' hp
            rcases ExPost.cases hp with ⟨v,rfl⟩ | ⟨ch,rfl⟩
            · go_wp2_with fail
              go_ret
              exact hp
            · exact ⟨rfl,hp⟩
          | some k2 =>
            obtain ⟨wO,hwO⟩:∃ wO,wO=wr:=⟨_,rfl⟩
            go_wp2_with (first
              | (go_at_call 75; refine H75.out.mono ?_; rintro e w' ⟨⟨v,rfl,hv⟩,rfl⟩
                 rw [hed] at hv
                 obtain ⟨x,hx,rfl⟩:=hv
                 have HO:=Lib.hid (ok_old Hrs.out hc hed hx)))
            subst hwO
            have hxnum:x.num=(k2:Int):=(HO.out.hm.num k2 x HO.out.hk).1
            have hklt:k2<1073741824:=by
              have h1:=(List.getElem?_eq_some_iff.1 HO.out.hk).1
              have h2:=HO.out.inv.sl
              rw [HO.out.hm.sts,List.length_map] at h2
              omega
            have x0:wO.cell? ⟨x.sb,0,none⟩=some (.int .i64 (k2:Int)):=by rw [sb_of HO.out.hk HO.out.st]; simp [SM.cells,hxnum]
            have hne:((k2:Int) == 2147483647)=false:=by rw [beq_eq_false_iff_ne]; omega
            have hxacc:=(HO.out.hm.acc x (List.mem_of_getElem? HO.out.hk)).1
            have h78:=c78 (l:=l) (σ := { σ with ln:=(ln:Int),col:=(col:Int) }) ht hl2 hc rfl rfl (by omega) (by omega) ((HO.out.st.pick 2).pick 1)
            have H78:=Lib.hid h78
            have hcne:((c:Int) == -1)=false:=by rw [beq_eq_false_iff_ne]; omega
            have hcne2:((c:Int) != -1)=true:=by simp only [bne,hcne]; rfl
            clear h78
            cases hxa:x.acc
            all_goals
              rw [hxa] at hxacc
              have Hxacc:=Lib.hid hxacc
              clear hxacc
              go_wp2_with (first
                | (go_at_call 77; refine (c77 x0).mono ?_; rintro e w' ⟨rfl,rfl⟩)
                | (go_at_call 78; refine H78.out.mono ?_; rintro e w3 ⟨rfl,H3⟩
                   have H4:=(H3.pick 2).pick 1
                   have x3:w3.cell? ⟨x.sb,3,none⟩=some (.bool x.acc):=by rw [sb_of HO.out.hk H4]; rfl
                   rw [hxa] at x3
                   have l10:w3.cell? ⟨l,10,none⟩=some (bp pa):=by rw [H4.split.cells.1 10]; simp [Sim.cells,hpa]
                   have H5:=Lib.hid H4
                   have h277:=c277 ht (by omega) hl2 (H4.pick 2)
                   have H277:=Lib.hid h277
                   clear H3 H4 h277)
                | (go_at_call 74; refine (c74 H5.out).mono ?_; rintro e w4 ⟨rfl,H6⟩
                   have h277:=c277 ht (by omega) hl2 (H6.pick 2)
                   have H277:=Lib.hid h277
                   have H5:=Lib.hid H6
                   clear H6 h277)
                | (go_at_call 277; refine H277.out.mono ?_; rintro e w' ⟨rfl,rfl⟩))
            · obtain ⟨acc',hn⟩:=run_next HO.out hlt' hln hcol Haccp.out (.inr ⟨Hxacc.out.symm,rfl,rfl,rfl,rfl⟩) H5.out
              refine ⟨⟨_,_,_,_,_,_,_,_,_,_,_,_,rfl,rfl,hn⟩,?_⟩
              rw [posOf_st H5.out,Hpos.out]
              omega
            · obtain ⟨acc',hn⟩:=run_next HO.out hlt' hln hcol Haccp.out (.inl ⟨Hxacc.out.symm,rfl,rfl,rfl,rfl⟩) H5.out
              refine ⟨⟨_,_,_,_,_,_,_,_,_,_,_,_,rfl,rfl,hn⟩,?_⟩
              rw [posOf_st H5.out,Hpos.out]
              omega
        | none =>
          by_cases hz:(Lx.adds hN ⟨[],[]⟩ (Lx.rch1 out n s.L c)).cf=[]
          · have h76:=c76_err (l:=l) (iv:=.iface 123 (bp ib)) HR.out Hcx.out (by simp [hX]) HEn.out Hrs.out.hm Hrs.out.hk hc7 hP hsL hz HD
            have H76:=Lib.hid h76
            clear h76 HD
            go_wp2_with (first
              | (go_at_call 75; refine H75.out.mono ?_; rintro e w' ⟨⟨v,rfl,hv⟩,rfl⟩
                 rw [hed] at hv
                 have hv':v=.pointer none:=hv
                 subst hv')
              | (go_at_call 76; refine H76.out.mono ?_; rintro e wE ⟨e0,rfl,hee,m2,hm2,hH,hg⟩
                 have hsb:wE.cell? ⟨s.sb,1,none⟩=some (bp s.b):=by
                   obtain ⟨y,hy,ha⟩:=hg k s Hrs.out.hk
                   have:=(DfaL.state hy hH).1 1
                   rw [ha.sb] at this
                   rw [this,← ha.b]
                   rfl
                 have HE:=Lib.hid (err_new Hrs.out hc hed hz hm2 hg hee hH hsb)
                 clear hee hH hm2 hg hsb))
            have E0:=HE.out.e
            have l10:wE.cell? ⟨l,10,none⟩=some (bp pa):=by rw [HE.out.st.split.cells.1 10]; simp [Sim.cells,hpa]
            have s1:=HE.out.sb
            go_wp2_with (first
              | (go_at_call 77; refine (c77 E0).mono ?_; rintro e w' ⟨rfl,rfl⟩))
            refine wp_region_still_tail 11 (by kernel_rfl) (by kernel_rfl) ?_
            simp only [List.take_succ_cons,List.take_zero,List.drop_succ_cons,List.drop_zero]
            have l10':(wE.drew).cell? ⟨l,10,none⟩=some (bp pa):=l10
            have s1':(wE.drew).cell? ⟨s.sb,1,none⟩=some (bp s.b):=s1
            have HE':=HE.out.drew
            change wpStill Tryz.prog _ (wE.drew) (fun a'=>wpList Tryz.prog _ _ _ a' (wE.drew)) _ _
            generalize wE.drew=W at l10' s1' HE' ⊢
            have H79:=Lib.hid (c79_all (v:=bp s.b) (ch:=(c:Int)) HE' hpa hsi hpos Haccp.out (.inr ⟨rfl,Int.natCast_nonneg _⟩))
            clear HE' HE E0 l10 s1
            still_step
            still_step
            still_step
            still_step
            still_step
            still_step
            still_step
            still_step
            still_step
            still_step
            still_step
            refine wpStill_nil ?_
            go_wp2_with fail
            go_at_call 79
            refine H79.out.mono ?_
            rintro e w' hp
            rcases ExPost.cases hp with ⟨v,rfl⟩ | ⟨ch,rfl⟩
            · go_wp2_with fail
              go_ret
              exact hp
            · exact ⟨rfl,hp⟩
          · have h76:=c76_set (l:=l) (iv:=.iface 123 (bp ib)) (σ := { σ with ln:=(ln:Int),col:=(col:Int) }) HR.out Hst.out Hcx.out (by simp [hX]) HEn.out Hrs.out.hm hσ hnd hd Hrs.out.hk hc7 hP hsL haq hms hz (Hrs.out.st.perm perm2)
            have H76:=Lib.hid h76
            clear h76 HD
            go_wp2_with (first
              | (go_at_call 75; refine H75.out.mono ?_; rintro e w' ⟨⟨v,rfl,hv⟩,rfl⟩
                 rw [hed] at hv
                 have hv':v=.pointer none:=hv
                 subst hv')
              | (go_at_call 76; refine H76.out.mono ?_; rintro e wO ⟨p,rfl,hsp⟩
                 obtain ⟨m2,D2,k2,x,rfl,ho⟩:=ok_new HEn.out Hrs.out hc hed hz hsp
                 have HO:=Lib.hid ho
                 clear hsp ho))
            have hxnum:x.num=(k2:Int):=(HO.out.hm.num k2 x HO.out.hk).1
            have hklt:k2<1073741824:=by
              have h1:=(List.getElem?_eq_some_iff.1 HO.out.hk).1
              have h2:=HO.out.inv.sl
              rw [HO.out.hm.sts,List.length_map] at h2
              omega
            have x0:wO.cell? ⟨x.sb,0,none⟩=some (.int .i64 (k2:Int)):=by rw [sb_of HO.out.hk HO.out.st]; simp [SM.cells,hxnum]
            have hne:((k2:Int) == 2147483647)=false:=by rw [beq_eq_false_iff_ne]; omega
            have hxacc:=(HO.out.hm.acc x (List.mem_of_getElem? HO.out.hk)).1
            have h78:=c78 (l:=l) (σ := { σ with ln:=(ln:Int),col:=(col:Int) }) ht hl2 hc rfl rfl (by omega) (by omega) ((HO.out.st.pick 2).pick 1)
            have H78:=Lib.hid h78
            have hcne:((c:Int) == -1)=false:=by rw [beq_eq_false_iff_ne]; omega
            have hcne2:((c:Int) != -1)=true:=by simp only [bne,hcne]; rfl
            clear h78
            cases hxa:x.acc
            all_goals
              rw [hxa] at hxacc
              have Hxacc:=Lib.hid hxacc
              clear hxacc
              go_wp2_with (first
                | (go_at_call 77; refine (c77 x0).mono ?_; rintro e w' ⟨rfl,rfl⟩)
                | (go_at_call 78; refine H78.out.mono ?_; rintro e w3 ⟨rfl,H3⟩
                   have H4:=(H3.pick 2).pick 1
                   have x3:w3.cell? ⟨x.sb,3,none⟩=some (.bool x.acc):=by rw [sb_of HO.out.hk H4]; rfl
                   rw [hxa] at x3
                   have l10:w3.cell? ⟨l,10,none⟩=some (bp pa):=by rw [H4.split.cells.1 10]; simp [Sim.cells,hpa]
                   have H5:=Lib.hid H4
                   have h277:=c277 ht (by omega) hl2 (H4.pick 2)
                   have H277:=Lib.hid h277
                   clear H3 H4 h277)
                | (go_at_call 74; refine (c74 H5.out).mono ?_; rintro e w4 ⟨rfl,H6⟩
                   have h277:=c277 ht (by omega) hl2 (H6.pick 2)
                   have H277:=Lib.hid h277
                   have H5:=Lib.hid H6
                   clear H6 h277)
                | (go_at_call 277; refine H277.out.mono ?_; rintro e w' ⟨rfl,rfl⟩))
            · obtain ⟨acc',hn⟩:=run_next HO.out hlt' hln hcol Haccp.out (.inr ⟨Hxacc.out.symm,rfl,rfl,rfl,rfl⟩) H5.out
              refine ⟨⟨_,_,_,_,_,_,_,_,_,_,_,_,rfl,rfl,hn⟩,?_⟩
              rw [posOf_st H5.out,Hpos.out]
              omega
            · obtain ⟨acc',hn⟩:=run_next HO.out hlt' hln hcol Haccp.out (.inl ⟨Hxacc.out.symm,rfl,rfl,rfl,rfl⟩) H5.out
              refine ⟨⟨_,_,_,_,_,_,_,_,_,_,_,_,rfl,rfl,hn⟩,?_⟩
              rw [posOf_st H5.out,Hpos.out]
              omega
end Go.Proofs.YtbcngfgemjdllaaGreatDoor
end
