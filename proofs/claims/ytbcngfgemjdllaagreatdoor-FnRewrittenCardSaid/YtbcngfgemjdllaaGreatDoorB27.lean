/- Part 27: D54, D55, D56, D57. -/
import Derived.Laws.RangeString
import Derived.Laws.IdiomStrings
import Derived.Test.YtbcngfgemjdllaaGreatDoorB13
import Derived.Test.YtbcngfgemjdllaaGreatDoorB14
import Derived.Test.YtbcngfgemjdllaaGreatDoorB15
import Derived.Test.YtbcngfgemjdllaaGreatDoorB26
set_option linter.unusedVariables false
set_option linter.unusedSimpArgs false
section
namespace Go.Proofs.YtbcngfgemjdllaaGreatDoor
open Go.RowKit Go.Own
variable {kd bk xf pf ru:Nat→Nat} {out:Nat→List Lx.Tr} {kindOf:Nat→Int} {stop:Nat→Bool} {B n N A at_ nr:Nat} {w0 w:World} {r:List HP} {X:HP} {P:List Lx.Cf→Prop}
section
variable (kd bk:Nat→Nat) (out:Nat→List Lx.Tr) (kindOf:Nat→Int) (stop:Nat→Bool) (B N A:Nat) (w0:World) (P:List Lx.Cf→Prop) (l d pa ib:Nat) (cap:Nat) (sa:Option Addr) (t:List Nat) (σ : Sim) (dps:List Value) (ats:Value) (dec:Int)
def MSt (r:List HP) (D:Lx.DS) (pos:Nat) (ln col:Int) (w:World):Prop :=
  ∃ xf pf m si mc p0 l0 k0 v0,DMok N A stop kindOf m D∧(∀ L ∈ D.sts,P L) ∧
    ((m.ms=[]∧m.xs=[]∧D.s0=none∧St B w0 (SimP l { σ with ln:=ln,col:=col,si:=si,mc:=mc } dps::pts pa 234 (accC p0 l0 k0 v0)::ChP ib sa cap t pos::(DfaL kd bk xf pf d ats dec m++r)) w) ∨
     ((∃ k,D.s0=some k)∧CtxX xf pf B w0 (CtxS xf pf (out 0).length) A∧St B w0 (SimP l { σ with ln:=ln,col:=col,si:=si,mc:=mc } dps::pts pa 234 (accC p0 l0 k0 v0)::ChP ib sa cap t pos::(DfaL kd bk xf pf d ats dec m++(CtxS xf pf (out 0).length::r))) w))
def MRes (r:List HP) (pos:Nat) (R:Lx.DS × Lx.Res) (e:Ending) (w:World):Prop:=match R.2 with
  | .tok tk=>tk.stop≤t.length∧e=.returned (.int .i64 tk.kind)∧MSt kd bk out kindOf stop B N A w0 P l d pa ib cap sa t σ dps ats dec r R.1 tk.stop tk.ln tk.col w
  | .eof=>e=.returned (.int .i64 (-1))∧∃ (ln col:Int),MSt kd bk out kindOf stop B N A w0 P l d pa ib cap sa t σ dps ats dec r R.1 pos ln col w
  | .fail=>∃ (pb:Nat) (z:Value) (p:Nat) (ln col:Int),e=.panicked [{ v:=.iface 127 (bp pb),recovered:=false }]∧MSt kd bk out kindOf stop B N A w0 P l d pa ib cap sa t σ dps ats dec (pts pb 215 [.int .i64 pos,z]::r) R.1 p ln col w
end
variable {l d pa ib cap pos ln col:Nat} {sa:Option Addr} {t:List Nat} {σ : Sim} {dps:List Value} {ats:Value} {dec:Int} {m:DM} {D:Lx.DS}
theorem swap_in {a b c x:HP} {L:List HP} (H:St B w0 (a::b::c::x::(L++(X::r))) w):St B w0 (b::c::x::(L++(X::a::r))) w:=by
  refine H.perm ?_
  refine (List.Perm.swap b a _).trans (List.Perm.cons b ((List.Perm.swap c a _).trans (List.Perm.cons c ((List.Perm.swap x a _).trans (List.Perm.cons x ?_)))))
  have p:∀ (x y z:List HP),(x++(y++z)).Perm (y++(x++z)):=fun x y z=>by
    rw [← List.append_assoc,← List.append_assoc]
    exact List.perm_append_comm.append_right z
  refine (p [a] L (X::r)).trans ?_
  exact (List.Perm.swap X a r).append_left L
theorem MRes.of (hs:∃ k,(Lx.match1 hN hS out n stop kindOf D (t.drop pos) pos ln col).1.s0=some k) (hcx:CtxX xf pf B w0 (CtxS xf pf (out 0).length) A) {si mc:Int} {e:Ending}
    (h:ExPost kd bk xf pf B N A w0 (CtxS xf pf (out 0).length::r) stop kindOf P l d pa ib cap sa t { σ with mc:=mc,si:=si } dps ats dec pos
      (Lx.runF hN hS out n stop (t.drop pos) (D.startD hN hS out n).1 (D.startD hN hS out n).2 pos ln col (if (Lx.accd stop ((D.startD hN hS out n).1.cfs (D.startD hN hS out n).2)).isSome then some ⟨pos,ln,col,(D.startD hN hS out n).2⟩ else none)) e w) :
    MRes kd bk out kindOf stop B N A w0 P l d pa ib cap sa t σ dps ats dec r pos (Lx.match1 hN hS out n stop kindOf D (t.drop pos) pos ln col) e w:=by
  unfold Lx.match1 at hs ⊢
  simp only at hs ⊢
  generalize Lx.runF hN hS out n stop (t.drop pos) _ _ pos ln col _=R at h hs ⊢
  obtain ⟨m',p0,l0,k0,v0,h1,⟨more,h2⟩,h3⟩:=h
  unfold MRes
  simp only
  cases hR:R.2.1 with
  | some a =>
    rw [hR] at h3
    exact ⟨h3.1,h3.2.1,xf,pf,m',si,mc,p0,l0,k0,v0,h1,h2.P,.inr ⟨hs,hcx,h3.2.2⟩⟩
  | none =>
    rw [hR] at h3
    obtain ⟨g,ln',col',h | h⟩:=h3
    · simp only [h.1,h.2.1,beq_self_eq_true,Bool.and_self,if_true]
      refine ⟨h.2.2.1,ln',col',xf,pf,m',si,mc,p0,l0,k0,v0,h1,h2.P,.inr ⟨hs,hcx,?_⟩⟩
      have:=h.2.2.2
      rw [h.2.1] at this
      exact this
    · obtain ⟨h4,pb,h5,h6⟩:=h
      simp only [h4,Bool.false_eq_true,if_false]
      exact ⟨pb,_,R.2.2.1,ln',col',h5,xf,pf,m',si,mc,p0,l0,k0,v0,h1,h2.P,.inr ⟨hs,hcx,swap_in h6⟩⟩
theorem c42 (hR:NetR kd bk out ru kindOf B w0 N at_ nr) (hst:∀ n,n<N→stop n=(kd n == 7)) (hE:Env out n N A P) (hd0:∀ tr ∈ out 0,Lx.Dep out n tr.to) (hout:0<(out 0).length)
    (ht:∀ c ∈ t,c≤127) (hl2:t.length<1073741824) (hσ : σ.at_=at_) (hnd:0 < σ.nd) (hd:dps[0]? = some (bp d)) (hpa : σ.pa=pa) (hpos:pos≤t.length) (hln:ln+(t.length - pos)<1099511627776) (hcol:col+(t.length - pos)<1099511627776)
    (h1:D.sts.length+(t.length - pos+1)<1073741824) (h2:D.asked.length+2 * (t.length - pos+1)<1073741824)
    (H:MSt kd bk out kindOf stop B N A w0 P l d pa ib cap sa t σ dps ats dec r D pos ln col w) :
    Calls Tryz.prog 42 #[bp l,.iface 123 (bp ib),.int .i64 0] w (MRes kd bk out kindOf stop B N A w0 P l d pa ib cap sa t σ dps ats dec r pos (Lx.match1 hN hS out n stop kindOf D (t.drop pos) pos ln col)):=by
  have hs:=Lx.match1_s0 (h:=hN) (hs:=hS) (out:=out) (n:=n) (stop:=stop) (kindOf:=kindOf) D (t.drop pos) pos ln col
  obtain ⟨xf,pf,m,si,mc,p0,l0,k0,v0,hm,hP,⟨g1,g2,g3,H⟩ | ⟨⟨k,g3⟩,hcx,H⟩⟩:=H
  · refine (c42_first (σ := { σ with si:=si,mc:=mc }) hR hst hE hd0 hout ht hl2 hσ hnd hd hpa hm ⟨g1,g2⟩ g3 ⟨hP,h1,h2⟩ hpos hln hcol H).mono ?_
    rintro e w' ⟨xf',pf',hcx,h⟩
    exact MRes.of hs hcx h
  · refine (c42_next (σ := { σ with si:=si,mc:=mc }) hR hst hcx (by simp) hE ht hl2 hσ hnd hd hpa hm g3 ⟨hP,by omega,by omega⟩ hpos hln hcol H).mono ?_
    rintro e w' h
    exact MRes.of hs hcx h
end Go.Proofs.YtbcngfgemjdllaaGreatDoor
end
section
namespace Go.Proofs.YtbcngfgemjdllaaGreatDoor
open Go.RowKit Go.Own
variable {B:Nat} {w0 w:World} {r:List HP}
theorem runes_ascii (s:ByteArray) (h:∀ c ∈ tx s,c≤127):∀ (bound i:Nat) (acc:Array Value),bound=s.size - i→Conv.runesFrom s bound i acc=acc++(((tx s).drop i).map fun c:Nat=>Value.int .i32 (c:Int)).toArray
  | 0,i,acc,e=>by
    have:s.size≤i:=by omega
    rw [List.drop_eq_nil_of_le (by rw [tx_len]; exact this)]
    simp [Conv.runesFrom]
  | b + 1, i, acc, e => by
    have hlt:i<s.size:=by omega
    have hl2:i<(tx s).length:=by rw [tx_len]; exact hlt
    have hg:(tx s)[i]=(s[i]'hlt).toNat:=by
      simp [tx]
      rfl
    have ha:(s[i]'hlt).toNat<128:=by
      have:=h _ (List.getElem_mem hl2)
      rw [hg] at this; omega
    unfold Conv.runesFrom
    rw [if_pos hlt,decode_ascii s i hlt ha]
    simp only
    rw [runes_ascii s h b (i+1) _ (by omega),List.drop_eq_getElem_cons hl2,hg]
    simp
theorem und9:Tryz.prog.underlying 9=some .string:=by kernel_rfl
theorem und124:Tryz.prog.underlying 124=some (.slice 21):=by kernel_rfl
theorem und21:Tryz.prog.underlying 21=some (.int .i32):=by kernel_rfl
set_option maxRecDepth 100000 in
theorem run_runes (s:ByteArray) (h:∀ c ∈ tx s,c≤127) (hl:s.size<1073741824) (H:St B w0 r w) :
    ∃ g cap w',(convert 9 124 (.string s)).run Tryz.prog w=.ok (.slice (some ⟨g,0,none⟩) (tx s).length cap) w'∧St B w0 (Osl (.slice (some ⟨g,0,none⟩) (tx s).length cap) 21 1 (tx s).length ((tx s).map fun c:Nat=>Value.int .i32 (c:Int))::r) w':=by
  have hr:=runes_ascii s h s.size 0 #[] (by omega)
  simp only [List.drop_zero,Array.empty_append] at hr
  have hsz:(Conv.runesFrom s s.size 0 #[]).size=(tx s).length:=by rw [hr]; simp
  have h1:=run_runes_of_string (P:=Tryz.prog) w 9 124 21 s und9 und124 und21 (by rw [hsz,tx_len]; omega)
  rw [hsz,hr] at h1
  have hge:=grownCap_ge w (tx s).length 0 21
  have hcm:=grownCap_le_maxLen w (tx s).length 0 21 (by rw [tx_len]; simp only [maxLen]; omega)
  refine ⟨_,_,_,h1,?_⟩
  have HH:=H.drew.alloc (ob 21 (((tx s).map fun c:Nat=>Value.int .i32 (c:Int))++List.replicate (grownCap w (tx s).length 0 21 - (tx s).length) (.int .i32 0)))
  have:=St.ownMade (sz:=1) (cap:=grownCap w (tx s).length 0 21) HH (tx s).length hge (by simp; omega) hcm
  rw [Nat.mul_one,List.take_left' (by simp)] at this
  have e1:ob 21 (((tx s).map fun c:Nat=>Value.int .i32 (c:Int))++List.replicate (grownCap w (tx s).length 0 21 - (tx s).length) (.int .i32 0))=.cells ((((tx s).map fun c:Nat=>Value.int .i32 (c:Int)).toArray)++Array.replicate (grownCap w (tx s).length 0 21 - (tx s).length) (.int .i32 0)) 21:=by
    unfold ob
    congr 1
    apply Array.ext'
    simp
  rw [e1] at this
  exact this
theorem c67_idle (p:Addr):CallsD Tryz.prog 67 #[.pointer (some p)] .returning w fun e u' w'=>u'=.returning∧e=.returned (.tuple #[])∧w'=w:=by
  refine callsD_of_wpS Tryz.func67 rfl fun c₀ cs hu => ?_
  apply wpS_seq
  apply wpS_region
  simp [wpOpsS,go_sem,recoverD,hu,Tryz.ntmps67,Exit.thenS]
  apply wpS_seq
  apply wpS_region
  simp [wpOpsS,go_sem,Exit.thenS]
  refine wpS_cond (t:=false) (by simp [Act.eval]) ?_
  simp only [Bool.false_eq_true,if_false]
  refine wpS_of_wp (wp_skip ?_)
  cases c₀
  simp_all [bodyPostS,results,Tryz.results67]
theorem c67_fail {pb:Nat} {p:Addr} {x z:Value} {n:Int} {older:List PanicEntry} (hx:w.cell? p=some x) (hf:w.frozen? p=false) (hn:w.cell? ⟨pb,0,none⟩=some (.int .i64 n)) :
    CallsD Tryz.prog 67 #[.pointer (some p)] (.panicking ({ v:=.iface 127 (bp pb),recovered:=false } :: older)) w fun e u' w'=>u'=.panicking ({ v:=.iface 127 (bp pb),recovered:=true } :: older)∧e=.returned (.tuple #[])∧w'=w.setCell p (.int .i64 n):=by
  have und:Tryz.prog.underlying 127=some (.pointer 215):=by kernel_rfl
  have ha:∀ w:World,(Instr.typeAssert (.iface 127 (bp pb)) 20 127 true).run Tryz.prog w=.ok (.tuple #[bp pb,.bool true]) w:=fun w=>run_assert_hit und
  refine callsD_of_wpS Tryz.func67 rfl fun c₀ cs hu => ?_
  apply wpS_seq
  apply wpS_region
  simp [wpOpsS,go_sem,recoverD,hu,Tryz.ntmps67,Exit.thenS]
  apply wpS_seq
  apply wpS_region
  simp [wpOpsS,go_sem,Exit.thenS]
  refine wpS_cond (t:=true) (by simp [Act.eval]) ?_
  simp only [if_true]
  apply wpS_seq
  apply wpS_region
  simp [wpOpsS,go_sem,Exit.thenS,ha]
  apply wpS_seq
  apply wpS_seq
  apply wpS_region
  simp [wpOpsS,go_sem,Exit.thenS]
  refine wpS_cond (t:=false) (by simp [Act.eval]) ?_
  simp only [Bool.false_eq_true,if_false]
  refine wpS_of_wp (wp_skip ?_)
  apply wpS_region
  simp [wpOpsS,go_sem,hn,hx,hf,bodyPostS,results,Tryz.results67]
end Go.Proofs.YtbcngfgemjdllaaGreatDoor
end
section
namespace Go.Proofs.YtbcngfgemjdllaaGreatDoor
open Go.RowKit Go.Own
variable {kd bk:Nat→Nat} {B N at_:Nat} {w0 w:World} {r:List HP} {decs:List Nat}
structure DecT (kd bk:Nat→Nat) (B:Nat) (w0:World) (N at_:Nat) (decs:List Nat):Prop where
  atlt:at_<B
  row:∃ g c,g<B∧w0.cell? ⟨at_,0,none⟩=some (.slice (some ⟨g,0,none⟩) decs.length c)∧∀ (j s:Nat),decs[j]? = some s→s<N∧DOk (kd s)∧bk s<B∧w0.cell? ⟨g,j,none⟩=some (.iface (ty (kd s)) (bp (bk s)))∧(kd s=10→w0.cell? ⟨bk s,10,none⟩=some (.bool false))
  len:decs.length<1099511627776
  ne:0<decs.length
def dV (kd bk:Nat→Nat) (decs:List Nat) (j:Nat):Value:=match decs[j]? with
  | some s=>.iface (ty (kd s)) (bp (bk s))
  | none=>.nilIface
def DfP (kd bk:Nat→Nat) (decs:List Nat) (x:Nat × Nat):HP:=pts x.1 159 (dfaC (dV kd bk decs x.2) x.2 dm0)
def DecRel (kd bk:Nat→Nat) (B:Nat) (w0:World) (r:List HP) (decs:List Nat) (v i:Value) (w:World):Prop :=
  ∃ (ds:List Nat) (a:Option Addr) (c:Nat),v=.slice a ds.length c∧i=.int .i64 (ds.length:Int)∧ds.length≤decs.length∧St B w0 (Osl v 117 1 ds.length (ds.map bp)::stars (ds.zipIdx.map (DfP kd bk decs))::r) w
theorem sl105:SlT Tryz.prog 105 117 1 8 (.pointer none):=⟨by kernel_rfl,sl_inf (by kernel_rfl),by kernel_rfl,by decide⟩
theorem zip_push (ds:List Nat) (d:Nat):(ds++[d]).zipIdx=ds.zipIdx++[(d,ds.length)]:=by
  rw [List.zipIdx_append]; simp
theorem DecRel.next {ds:List Nat} {a:Option Addr} {c d:Nat} (H:St B w0 (Osl (.slice a (ds.length+1) c) 117 1 (ds.length+1) (ds.map bp++[bp d])::pts d 159 (dfaC (dV kd bk decs ds.length) ds.length dm0)::stars (ds.zipIdx.map (DfP kd bk decs))::r) w) (hlt:ds.length<decs.length) :
    DecRel kd bk B w0 r decs (.slice a (ds.length+1) c) (.int .i64 ((ds.length+1:Nat):Int)) w:=by
  refine ⟨ds++[d],a,c,by simp,by simp,by simp; omega,?_⟩
  have H1:=(H.pick 1).pick 2
  have H2:=St.pushMap (f:=DfP kd bk decs) (a:=(d,ds.length)) (H1.pick 1)
  rw [zip_push]
  simp only [List.length_append,List.length_cons,List.length_nil,List.map_append,List.map_cons,List.map_nil]
  have H3:St B w0 (Osl _ 117 1 _ _::stars _::r) w:=H2.pick 1
  simpa using H3
end Go.Proofs.YtbcngfgemjdllaaGreatDoor
end
section
namespace Go.Proofs.YtbcngfgemjdllaaGreatDoor
open Go.RowKit Go.Own
variable {kd bk:Nat→Nat} {out:Nat→List Lx.Tr} {ru:Nat→Nat} {kindOf:Nat→Int} {stop:Nat→Bool} {B n N A at_ nr:Nat} {w0 w w':World} {r r':List HP} {P:List Lx.Cf→Prop}
variable {l d pa ib cap:Nat} {sa:Option Addr} {t:List Nat} {σ : Sim} {dps:List Value} {ats:Value} {dec:Int} {D:Lx.DS} {pos:Nat} {ln col:Int}
theorem MSt.map (f:∀ L,St B w0 (L++r) w→St B w0 (L++r') w') (h:MSt kd bk out kindOf stop B N A w0 P l d pa ib cap sa t σ dps ats dec r D pos ln col w):MSt kd bk out kindOf stop B N A w0 P l d pa ib cap sa t σ dps ats dec r' D pos ln col w':=by
  obtain ⟨xf,pf,m,si,mc,p0,l0,k0,v0,hm,hP,⟨g1,g2,g3,H⟩ | ⟨⟨k,g3⟩,hcx,H⟩⟩:=h
  · exact ⟨xf,pf,m,si,mc,p0,l0,k0,v0,hm,hP,.inl ⟨g1,g2,g3,f (SimP l _ dps::pts pa 234 _::ChP ib sa cap t pos::DfaL kd bk xf pf d ats dec m) H⟩⟩
  · refine ⟨xf,pf,m,si,mc,p0,l0,k0,v0,hm,hP,.inr ⟨⟨k,g3⟩,hcx,?_⟩⟩
    have h1:=f (SimP l _ dps::pts pa 234 _::ChP ib sa cap t pos::(DfaL kd bk xf pf d ats dec m++[CtxS xf pf (out 0).length])) (by
      simp only [List.cons_append,List.append_assoc,List.nil_append]; exact H)
    simpa only [List.cons_append,List.append_assoc,List.nil_append] using h1
theorem MSt.open (h:MSt kd bk out kindOf stop B N A w0 P l d pa ib cap sa t σ dps ats dec r D pos ln col w):∃ L,St B w0 (L++r) w∧∀ r' w',St B w0 (L++r') w'→MSt kd bk out kindOf stop B N A w0 P l d pa ib cap sa t σ dps ats dec r' D pos ln col w':=by
  obtain ⟨xf,pf,m,si,mc,p0,l0,k0,v0,hm,hP,⟨g1,g2,g3,H⟩ | ⟨⟨k,g3⟩,hcx,H⟩⟩:=h
  · exact ⟨SimP l _ dps::pts pa 234 _::ChP ib sa cap t pos::DfaL kd bk xf pf d ats dec m,H,fun r' w' h=>⟨xf,pf,m,si,mc,p0,l0,k0,v0,hm,hP,.inl ⟨g1,g2,g3,h⟩⟩⟩
  · have e:∀ (a b c:HP) (q:List HP),a::b::c::(DfaL kd bk xf pf d ats dec m++(CtxS xf pf (out 0).length::q))=(a::b::c::(DfaL kd bk xf pf d ats dec m++[CtxS xf pf (out 0).length]))++q:=fun a b c q=>by simp
    rw [e] at H
    exact ⟨_,H,fun r' w' h=>⟨xf,pf,m,si,mc,p0,l0,k0,v0,hm,hP,.inr ⟨⟨k,g3⟩,hcx,by rw [e]; exact h⟩⟩⟩
theorem cell_new {w:World} {b o:Nat} {v:Value} (h:w.cell? ⟨b,o,none⟩=some v) (x:Obj):((w.alloc x).drew).cell? ⟨b,o,none⟩=some v :=
  (((St.nil w).alloc x).drew.old.1 b o (World.block_lt_of_cell? _ _ h)).trans h
theorem MSt.any (h:MSt kd bk out kindOf stop B N A w0 P l d pa ib cap sa t σ dps ats dec r D pos ln col w):St B w0 r w:=by
  obtain ⟨xf,pf,m,si,mc,p0,l0,k0,v0,hm,hP,⟨g1,g2,g3,H⟩ | ⟨⟨k,g3⟩,hcx,H⟩⟩:=h
  · exact St.dropL _ H.drop.drop.drop
  · exact (St.dropL _ H.drop.drop.drop).drop
theorem MSt.cells (h:MSt kd bk out kindOf stop B N A w0 P l d pa ib cap sa t σ dps ats dec r D pos ln col w):w.cell? ⟨ib,1,none⟩=some (.int .i64 pos)∧w.cell? ⟨l,7,none⟩=some (.int .i64 ln)∧w.cell? ⟨l,8,none⟩=some (.int .i64 col):=by
  obtain ⟨xf,pf,m,si,mc,p0,l0,k0,v0,hm,hP,⟨g1,g2,g3,H⟩ | ⟨⟨k,g3⟩,hcx,H⟩⟩:=h
  · exact ⟨(ChP.cell (H.pick 2)).2.1,H.split.cells.1 7,H.split.cells.1 8⟩
  · exact ⟨(ChP.cell (H.pick 2)).2.1,H.split.cells.1 7,H.split.cells.1 8⟩
theorem St.behind {x y:HP} {w w':World} (f:∀ L,St B w0 (x::L) w→St B w0 (y::L) w') {L r:List HP} (H:St B w0 (L++(x::r)) w):St B w0 (L++(y::r)) w' :=
  (f _ (H.perm List.perm_middle)).perm List.perm_middle.symm
def nrm (Q:Exit→Act→World→Prop):Exit→Act→World→Prop
  | .normal,a,w=>Q .normal a w
  | _,_,_=>False
@[go_sem] theorem nrm_normal (Q:Exit→Act→World→Prop) (a:Act) (w:World):nrm Q .normal a w=Q .normal a w:=rfl
theorem wp_nrm {Pg:Program} {c:Code} {Q:Exit→Act→World→Prop} {a:Act} {w:World} (h:c.wp Pg (nrm Q) a w):c.wp Pg Q a w:=Code.wp_mono (fun e a w h=>by cases e <;> first | exact h | exact h.elim) h
def dsN:Lx.DS:=⟨[],fun _ _=>none,[],none⟩
theorem dm0_ok:DMok N A stop kindOf dm0 dsN where
  sts:=rfl
  bk:=fun q hq=>by simp [dm0] at hq
  bkh:=fun s hs=>by simp [dm0] at hs
  bkn:=by simp [dm0]
  st:=fun _=>⟨rfl,rfl⟩
  okL:=fun s hs=>by simp [dm0] at hs
  asked:=rfl
  askm:=fun q hq=>by simp [dm0] at hq
  num:=fun k s hs=>by simp [dm0] at hs
  s0:=rfl
  edk:=fun _ _ _=>rfl
  acc:=fun s hs=>by simp [dm0] at hs
  ed:=fun k s hs=>by simp [dm0] at hs
def tkM (x:Lx.Tok):List Value:=[.int .i64 x.kind,.int .i64 (x.start:Int),.int .i64 (x.stop:Int),.int .i64 (x.ln:Int),.int .i64 (x.col:Int),.slice none 0 0]
def eoC (x:Option (Nat × Int × Int)):List Value:=match x with | none=>[] | some y=>[.int .i64 (-1),.int .i64 (y.1:Int),.int .i64 (y.1:Int),.int .i64 y.2.1,.int .i64 y.2.2,.slice none 0 0]
def slN (v:Value):Nat:=match v with | .slice _ n _=>n | _=>0
def eoN (x:Option (Nat × Int × Int)):Nat:=match x with | none=>0 | some _=>1
def lxC:List Value:=[.map none,.int .i64 0,.slice none 0 0]
theorem sl99:SlT Tryz.prog 99 74 6 64 (.agg #[.int .i64 0,.int .i64 0,.int .i64 0,.int .i64 0,.int .i64 0,.slice none 0 0]):=⟨by kernel_rfl,sl_inf' (by kernel_rfl),by kernel_rfl,by decide⟩
section
variable (kd bk:Nat→Nat) (out:Nat→List Lx.Tr) (kindOf:Nat→Int) (stop:Nat→Bool) (B n N A:Nat) (w0:World) (P:List Lx.Cf→Prop)
variable (l d pa ib cap:Nat) (sa:Option Addr) (t:List Nat) (σ : Sim) (dps:List Value) (ats:Value) (dec:Int)
def LRel (lx:Nat) (fr:List HP) (v:Value) (wr:World):Prop :=
  ∃ (f pos ln col:Nat) (D:Lx.DS) (T:List Lx.Tok) (a:Option Addr) (c:Nat),v=.slice a T.length c∧f+T.length=t.length+1∧T.length≤pos∧pos≤t.length∧ln≤1+pos∧col≤pos∧D.sts.length≤T.length * 100∧D.asked.length≤T.length * 200 ∧
    (∀ x ∈ T,x.kind ≠ -1)∧Lx.lexF hN hS out n stop kindOf t (t.length+1) dsN 0 1 0=(T++(Lx.lexF hN hS out n stop kindOf t f D pos ln col).1,(Lx.lexF hN hS out n stop kindOf t f D pos ln col).2) ∧
    MSt kd bk out kindOf stop B N A w0 P l d pa ib cap sa t σ dps ats dec (Osl (.slice a T.length c) 74 6 T.length (T.flatMap tkM)::pts lx 104 lxC::fr) D pos ln col wr
def R52 (decs:List Nat) (r:List HP) (e:Ending) (w:World):Prop:=∃ (l d pa ib cap:Nat) (sa:Option Addr) (σ : Sim) (dps:List Value) (ats:Value) (dec:Int) (ds:List Nat) (T:List Lx.Tok) (x:Option (Nat × Int × Int)) (a:Option Addr) (c:Nat) (pos:Nat) (ln col:Int),
  e=.returned (.tuple #[.slice a (T.length+eoN x) c,.int .i64 (Lx.lexF hN hS out n stop kindOf t (t.length+1) dsN 0 1 0).2.1,.slice (some ⟨σ.ds,0,none⟩) σ.nd σ.cd]) ∧
  T=Lx.noEnd (Lx.lexF hN hS out n stop kindOf t (t.length+1) dsN 0 1 0).1∧(∀ x ∈ T,x.kind ≠ -1)∧(ds[0]? = some d∧(ds.length = σ.nd ∧ σ.nd=decs.length)∧∀ (i x:Nat),ds[i]? = some x→dps[i]? = some (bp x)) ∧
  MSt kd bk out kindOf stop B N A w0 P l d pa ib cap sa t σ dps ats dec (Osl (.slice a (T.length+eoN x) c) 74 6 (T.length+eoN x) (T.flatMap tkM++eoC x)::stars ((ds.zipIdx.map (DfP kd bk decs)).eraseIdx 0)::r) (Lx.lexF hN hS out n stop kindOf t (t.length+1) dsN 0 1 0).2.2 pos ln col w
end
theorem match1_kind {h:Lx.Cf→Int} {hs:List Lx.Cf→Int} {cs:List Nat} {ln col:Nat} {tk:Lx.Tok} (hk:∀ n,kindOf n ≠ -1) (e:(Lx.match1 h hs out n stop kindOf D cs pos ln col).2=.tok tk):tk.kind ≠ -1:=by
  unfold Lx.match1 at e
  simp only at e
  split at e
  · cases e; exact hk _
  · have key:∀ c:Bool,(if c=true then Lx.Res.eof else Lx.Res.fail)≠.tok tk:=by intro c; cases c <;> simp
    exact absurd e (key _)
section
variable {h:Lx.Cf→Int} {hs:List Lx.Cf→Int} {f:Nat} {D':Lx.DS} {tk:Lx.Tok} {ln col:Nat}
theorem lexF_tok (hm:Lx.match1 h hs out n stop kindOf D (t.drop pos) pos ln col=(D',.tok tk)) (hne:tk.stop≠pos):Lx.lexF h hs out n stop kindOf t (f+1) D pos ln col=(tk::(Lx.lexF h hs out n stop kindOf t f D' tk.stop tk.ln tk.col).1,(Lx.lexF h hs out n stop kindOf t f D' tk.stop tk.ln tk.col).2):=by
  conv=>lhs; unfold Lx.lexF
  rw [hm]; simp only; rw [if_neg hne]
theorem lexF_stop (hm:Lx.match1 h hs out n stop kindOf D (t.drop pos) pos ln col=(D',.tok tk)) (he:tk.stop=pos):Lx.lexF h hs out n stop kindOf t (f+1) D pos ln col=([tk],-1,D'):=by
  conv=>lhs; unfold Lx.lexF
  rw [hm]; simp only; rw [if_pos he]
theorem lexF_eof (hm:Lx.match1 h hs out n stop kindOf D (t.drop pos) pos ln col=(D',.eof)):Lx.lexF h hs out n stop kindOf t (f+1) D pos ln col=([⟨-1,pos,pos,ln,col⟩],-1,D'):=by
  conv=>lhs; unfold Lx.lexF
  rw [hm]
theorem lexF_fail (hm:Lx.match1 h hs out n stop kindOf D (t.drop pos) pos ln col=(D',.fail)):Lx.lexF h hs out n stop kindOf t (f+1) D pos ln col=([],(pos:Int),D'):=by
  conv=>lhs; unfold Lx.lexF
  rw [hm]
end
theorem noEnd_all {T:List Lx.Tok} (h:∀ x ∈ T,x.kind ≠ -1):Lx.noEnd T=T:=List.filter_eq_self.2 fun x hx=>by simpa using h x hx
theorem noEnd_end {T:List Lx.Tok} {a b c d:Nat} (h:∀ x ∈ T,x.kind ≠ -1):Lx.noEnd (T++[⟨-1,a,b,c,d⟩])=T:=by
  unfold Lx.noEnd
  rw [List.filter_append,show List.filter (fun tk:Lx.Tok=>tk.kind != -1) T=T from noEnd_all h]
  simp
theorem fin52 {T:List Lx.Tok} {x:Option (Nat × Int × Int)} {a:Option Addr} {c:Nat} {X1 X2:HP} {e:Ending} {ds decs:List Nat} (hT:T=Lx.noEnd (Lx.lexF hN hS out n stop kindOf t (t.length+1) dsN 0 1 0).1) (hTk:∀ x ∈ T,x.kind ≠ -1) (hd:ds[0]? = some d∧(ds.length = σ.nd ∧ σ.nd=decs.length)∧∀ (i x:Nat),ds[i]? = some x→dps[i]? = some (bp x))
    (hD:D=(Lx.lexF hN hS out n stop kindOf t (t.length+1) dsN 0 1 0).2.2)
    (he:e=.returned (.tuple #[.slice a (T.length+eoN x) c,.int .i64 (Lx.lexF hN hS out n stop kindOf t (t.length+1) dsN 0 1 0).2.1,.slice (some ⟨σ.ds,0,none⟩) σ.nd σ.cd]))
    (M:MSt kd bk out kindOf stop B N A w0 P l d pa ib cap sa t σ dps ats dec (Osl (.slice a (T.length+eoN x) c) 74 6 (T.length+eoN x) (T.flatMap tkM++eoC x)::X1::X2::stars ((ds.zipIdx.map (DfP kd bk decs)).eraseIdx 0)::r) D pos ln col w) :
    R52 kd bk out kindOf stop B n N A w0 P t decs r e w:=by
  subst hD
  refine ⟨l,d,pa,ib,cap,sa,σ,dps,ats,dec,ds,T,x,a,c,pos,ln,col,he,hT,hTk,hd,?_⟩
  refine M.map (fun L H => ?_)
  have h1:=St.perm H List.perm_append_comm
  have h2:St B w0 (Osl (.slice a (T.length+eoN x) c) 74 6 (T.length+eoN x) (T.flatMap tkM++eoC x)::stars ((ds.zipIdx.map (DfP kd bk decs)).eraseIdx 0)::(r++L)) w:=((h1.pick 2).drop.pick 1).drop
  have h3:St B w0 ((Osl (.slice a (T.length+eoN x) c) 74 6 (T.length+eoN x) (T.flatMap tkM++eoC x)::stars ((ds.zipIdx.map (DfP kd bk decs)).eraseIdx 0)::r)++L) w:=h2
  exact h3.perm List.perm_append_comm
end Go.Proofs.YtbcngfgemjdllaaGreatDoor
end
