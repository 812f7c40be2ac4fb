/- Part 22: D32, D33, D34. -/
import Derived.Test.YtbcngfgemjdllaaGreatDoorB21
set_option linter.unusedVariables false
set_option linter.unusedSimpArgs false
section
namespace Go.Proofs.YtbcngfgemjdllaaGreatDoor
open Go.RowKit Go.Own
variable {kd bk xf pf ru:Nat→Nat} {out:Nat→List Lx.Tr} {kindOf:Nat→Int} {stop:Nat→Bool} {B N A at_ nr:Nat} {w0 w:World} {r:List HP} {X:HP} {m:DM} {D:Lx.DS}
def FndRel (stop:Nat→Bool) (L:List Lx.Cf) (p i:Value):Prop:=∃ k:Nat,k≤L.length∧p=.pointer none∧i=.int .i64 k∧∀ (j:Nat) (x:Lx.Cf),j<k→L[j]? = some x→stop x.1=false
theorem accd_none {L:List Lx.Cf} (h:∀ (j:Nat) (x:Lx.Cf),j<L.length→L[j]? = some x→stop x.1=false):Lx.accd stop L=none:=by
  unfold Lx.accd
  rw [List.find?_eq_none]
  intro x hx
  obtain ⟨j,hj⟩:=List.mem_iff_getElem?.1 hx
  rw [h j x (List.getElem?_eq_some_iff.1 hj).1 hj]
  simp
theorem accd_some {L:List Lx.Cf} {k:Nat} {x:Lx.Cf} (hk:L[k]? = some x) (hx:stop x.1=true) (h:∀ (j:Nat) (x:Lx.Cf),j<k→L[j]? = some x→stop x.1=false):Lx.accd stop L=some x:=by
  unfold Lx.accd
  obtain ⟨hlt,he⟩:=List.getElem?_eq_some_iff.1 hk
  rw [List.find?_eq_some_iff_getElem]
  refine ⟨hx,k,hlt,he,fun j hj => ?_⟩
  rw [h j _ hj (List.getElem?_eq_getElem (by omega))]
  rfl
structure Pre (kd bk xf pf:Nat→Nat) (B:Nat) (w0:World) (r:List HP) (m:DM) (l d:Nat) (σ : Sim) (dps:List Value) (ats:Value) (dec:Int) (s:SM) (wt:World):Prop where
  l2:wt.cell? ⟨l,2,none⟩=some (.slice (some ⟨σ.ds,0,none⟩) σ.nd σ.cd)
  l9:wt.cell? ⟨l,9,none⟩=some (.int .i64 0)
  gd:wt.cell? ⟨σ.ds,0,none⟩=dps[0]?
  st:St B w0 (DfaL kd bk xf pf d ats dec m++(SP kd bk xf pf s::SimP l σ dps::r)) wt
theorem pre_of {l d sb b:Nat} {σ : Sim} {dps:List Value} {ats:Value} {dec:Int} {L Aq:List Lx.Cf} {acc:Bool} {pred:Int}
    (H:St B w0 (pts sb 178 (dsC (-1) b acc pred)::SetP kd bk xf pf b L Aq false (-1)::SimP l σ dps::(DfaL kd bk xf pf d ats dec m++r)) w):Pre kd bk xf pf B w0 r m l d σ dps ats dec ⟨sb,b,L,Aq,false,-1,acc,pred,none,[]⟩ w:=by
  have hSim:=((H.pick 2).split)
  refine ⟨hSim.cells.1 2,hSim.cells.1 9,(hSim.pick 1).cells.1 0,?_⟩
  have H2:=SP.whole (kd:=kd) (bk:=bk) (xf:=xf) (pf:=pf) (s:=⟨sb,b,L,Aq,false,-1,acc,pred,none,[]⟩) ((((H.pick 1).nilStars).pick 2).pick 2)
  exact H2.perm ((List.Perm.cons _ List.perm_middle.symm).trans List.perm_middle.symm)
theorem Pre.drewN {l d:Nat} {σ : Sim} {dps:List Value} {ats:Value} {dec:Int} {s:SM} (h:Pre kd bk xf pf B w0 r m l d σ dps ats dec s w) (n:Nat):Pre kd bk xf pf B w0 r m l d σ dps ats dec s (w.drewN n):=⟨h.l2,h.l9,h.gd,h.st.drewN n⟩
def AddPost (kd bk xf pf:Nat→Nat) (B N A:Nat) (w0:World) (r:List HP) (m:DM) (stop:Nat→Bool) (kindOf:Nat→Int) (l d:Nat) (σ : Sim) (dps:List Value) (ats:Value) (dec:Int) (D:Lx.DS) (k:Nat) (e:Ending) (w':World):Prop :=
  ∃ m' x,m'.ms[k]? = some x∧e=.returned (bp x.sb)∧DMok N A stop kindOf m' D∧St B w0 (SimP l σ dps::(DfaL kd bk xf pf d ats dec m'++r)) w'∧∀ (j:Nat) (y:SM),m.ms[j]? = some y→m'.ms[j]? = some y
theorem add_found {l d k:Nat} {x:SM} {σ : Sim} {dps:List Value} {ats:Value} {dec:Int} {s:SM} {v:Value} (hm:DMok N A stop kindOf m D) (ho:SOk N A s) (hf:D.find hS s.L=some k) (hx:m.ms[k]? = some x)
    (H:St B w0 (DfaL kd bk xf pf d ats dec (m.ask s v)++(SP kd bk xf pf s::SimP l σ dps::r)) w):AddPost kd bk xf pf B N A w0 r m stop kindOf l d σ dps ats dec (D.addS hS ⟨s.L,s.A⟩).1 (D.addS hS ⟨s.L,s.A⟩).2 (.returned (bp x.sb)) w:=by
  obtain ⟨h1,h2⟩:=hm.found hf ho v
  refine ⟨_,x,?_,rfl,h1,DfaL.front1 (DfaL.addX H),fun j y hy=>hy⟩
  rw [h2]
  exact hx
theorem AddPost.start {l d k:Nat} {σ : Sim} {dps:List Value} {ats:Value} {dec:Int} {x:SM} {m':DM} (h0:m'.ms[k]? = some x) (hm:DMok N A stop kindOf m' D) (H:St B w0 (SimP l σ dps::(DfaL kd bk xf pf d ats dec m'++r)) w) (hq:∀ (j:Nat) (y:SM),m.ms[j]? = some y→m'.ms[j]? = some y) :
    AddPost kd bk xf pf B N A w0 r m stop kindOf l d σ dps ats dec { D with s0:=some k } k (.returned (bp x.sb)) (w.setCell ⟨d,5,none⟩ (bp x.sb)) :=
  ⟨{ m' with s0:=some x.sb },x,h0,rfl,hm.start h0,DfaL.front1 (DfaL.setS0 (DfaL.back1 H) x.sb),hq⟩
theorem AddPost.start' {l d k p:Nat} {σ : Sim} {dps:List Value} {ats:Value} {dec:Int} (h:AddPost kd bk xf pf B N A w0 r m stop kindOf l d σ dps ats dec D k (.returned (bp p)) w) :
    AddPost kd bk xf pf B N A w0 r m stop kindOf l d σ dps ats dec { D with s0:=some k } k (.returned (bp p)) (w.setCell ⟨d,5,none⟩ (bp p)):=by
  obtain ⟨m',x,h1,h2,h3,h4,h5⟩:=h
  simp at h2
  subst h2
  exact AddPost.start h1 h3 h4 h5
theorem add_kept {l d:Nat} {σ : Sim} {dps:List Value} {ats:Value} {dec:Int} {s:SM} {v1 v2:Value} {st:Nat × Nat × Nat} {bks:List BK} (hm:DMok N A stop kindOf m D) (ho:SOk N A s) (hf:D.find hS s.L=none) (heb:s.eb=none)
    (hacc:s.acc=(Lx.accd stop s.L).isSome∧∀ x,Lx.accd stop s.L=some x→s.pred=kindOf x.1) (hb:BksOk (m.ms++[s.kept m.ms.length]) bks)
    (H:St B w0 (DfaL kd bk xf pf d ats dec ((m.ask s v1).keep (s.kept m.ms.length) v2 st bks)++(SimP l σ dps::r)) w):AddPost kd bk xf pf B N A w0 r m stop kindOf l d σ dps ats dec (D.addS hS ⟨s.L,s.A⟩).1 (D.addS hS ⟨s.L,s.A⟩).2 (.returned (bp s.sb)) w:=by
  obtain ⟨h1,h2⟩:=hm.kept (s:=s.kept m.ms.length) hf ⟨ho.ne,ho.L,ho.A,ho.lL,ho.lA⟩ rfl rfl heb hacc hb v1 v2 st
  refine ⟨_,_,h2,rfl,h1,DfaL.front1 H,fun j y hy => ?_⟩
  simp only [DM.keep,DM.ask]
  rw [List.getElem?_append_left (List.getElem?_eq_some_iff.1 hy).1]
  exact hy
end Go.Proofs.YtbcngfgemjdllaaGreatDoor
end
section
namespace Go.Proofs.YtbcngfgemjdllaaGreatDoor
open Go.RowKit Go.Own
variable {kd bk xf pf ru:Nat→Nat} {out:Nat→List Lx.Tr} {kindOf:Nat→Int} {stop:Nat→Bool} {B N A at_ nr:Nat} {w0 w:World} {r:List HP} {X:HP} {m:DM} {D:Lx.DS}
set_option maxRecDepth 100000 in
set_option maxHeartbeats 2000000 in
theorem c73 (hR : NetR kd bk out ru kindOf B w0 N at_ nr) (hst : ∀ n, n < N → stop n = (kd n == 7)) (hcx : CtxX xf pf B w0 X A) (hX : X ∈ r) (hm : DMok N A stop kindOf m D) {l d b jb mb cmb : Nat} {σ : Sim} {dps : List Value} {ats : Value} {dec : Int} (hσ : σ.at_ = at_) (hnd : 0 < σ.nd) (hd : dps[0]? = some (bp d)) (sup : Bool) {S : Lx.CS}
    (hS1:S.cf≠[]) (hS2:∀ x ∈ S.cf,x.1<N∧x.2<A) (hS3:∀ x ∈ S.ask,x.1<N∧x.2<A) (hl1:S.cf.length<1099511627776) (hl2':S.ask.length<1099511627776) (hl3:m.aq.length+1<1099511627776) (hl4:m.ms.length<1099511627776)
    (H:SetH kd bk xf pf B w0 b jb mb cmb S (SimP l σ dps::(DfaL kd bk xf pf d ats dec m++r)) w) :
    Calls Tryz.prog 73 #[bp l,bp b,.bool sup] w fun e w'=>AddPost kd bk xf pf B N A w0 r m stop kindOf l d σ dps ats dec (if sup then (D.addS hS S).1 else { (D.addS hS S).1 with s0:=some (D.addS hS S).2 }) (D.addS hS S).2 e w':=by
  have H0:=H.close
  have HR:=Lib.hid hR
  have Hst:=Lib.hid hst
  have Hcx:=Lib.hid hcx
  have Hm:=Lib.hid hm
  have HS2:=Lib.hid hS2
  have HS3:=Lib.hid hS3
  clear hR hst hcx hm hS2 hS3 H
  go_enter Tryz.func73,Tryz.ntmps73
  go_wp2_with (first
    | (go_at_call 54; refine (c54 H0).mono ?_; rintro e w1 ⟨sb,rfl,H1⟩
       obtain ⟨av,cv,jp,cms,hk,H2⟩:=SetP.opn (H1.pick 1)
       obtain ⟨sa,cap,rfl,hF⟩:=SetW.fsw HR.out.toNetB Hcx.out (by simp [hX]) HS2.out hk H2
       have hsl:=hF.sl
       have HF:=Lib.hid hF
       have HH1:=Lib.hid H1
       clear hF H2 H1 H0))
  go_loop [8,23] (FndRel stop S.cf) (fun _ i=>S.cf.length - (intOf i).toNat)
  case atStart=>exact ⟨0,Nat.zero_le _,rfl,rfl,fun j x hj=>absurd hj (Nat.not_lt_zero _)⟩
  case round =>
    obtain ⟨k,hk1,rfl,rfl,hpre⟩:=hrel
    have Hpre:=Lib.hid hpre
    clear hpre
    by_cases hlt:k<S.cf.length
    · obtain ⟨g, rfl, hrow⟩ := HF.out.row hS1
      obtain ⟨cb,hcb⟩:∃ cb,(cms.map CfM.cb)[k]? = some cb:=⟨_,List.getElem?_eq_getElem (by rw [HF.out.len]; exact hlt)⟩
      have hgk:=hrow _ _ hcb
      obtain ⟨x,hx⟩:∃ x,S.cf[k]? = some x:=⟨_,List.getElem?_eq_getElem hlt⟩
      have hcf:=HF.out.cfg _ _ _ hcb hx
      have hq1:w1.cell? ⟨cb,1,none⟩=some (.iface (ty (kd x.1)) (bp (bk x.1))):=(cells_at hcf.ob).1 1
      have hok:=hcf.ok
      have Hx:=Lib.hid hx
      have Hob:=Lib.hid hcf.ob
      have hxN:=(HS2.out x (List.mem_of_getElem? hx)).1
      have hk0:(0:Int)≤(k:Int):=Int.natCast_nonneg _
      have hk2:(k:Int)<(S.cf.length:Int):=by omega
      clear hrow hcb hx hcf
      by_cases h7:kd x.1=7
      · have hst7:stop x.1=true:=by rw [Hst.out _ hxN]; simpa using h7
        have hacc:=accd_some Hx.out hst7 Hpre.out
        have HA:=Lib.hid (show (true=(Lx.accd stop S.cf).isSome∧∀ y,Lx.accd stop S.cf=some y→kindOf x.1=kindOf y.1) from by rw [hacc]; exact ⟨rfl,fun y e=>by cases e; rfl⟩)
        have hne:cb≠sb:=by
          rintro rfl
          have h1:=Hob.out
          rw [HH1.out.heap.2] at h1
          simp [ob] at h1
        have K1:=HH1.out.setCell (off:=3) (.bool true)
        have K2:=K1.setCell (off:=5) (.pointer none)
        simp only [dsC,List.set_cons_succ,List.set_cons_zero] at K1 K2
        have g3:=HH1.out.cells.1 3
        have g3f:=HH1.out.cells.2 3
        simp only [dsC,List.getElem?_cons_succ,List.getElem?_cons_zero] at g3
        have g5:=K1.cells.1 5
        have g5f:=K1.cells.2 5
        simp only [List.getElem?_cons_succ,List.getElem?_cons_zero] at g5
        have g7:(w1.setCell ⟨sb,3,none⟩ (.bool true)).cell? ⟨cb,7,none⟩=some (.pointer none):=by rw [cell_ne hne]; exact (cells_at Hob.out).1 7
        go_wp2_with (first
          | (go_at_call 104; refine (c104 _ _ _ hq1).mono ?_; rintro e w' ⟨rfl,rfl⟩))
        have hob2:((w1.setCell ⟨sb,3,none⟩ (.bool true)).setCell ⟨sb,5,none⟩ (.pointer none)).heap[cb]? = some (ob 227 (cfC (kd x.1) (bk x.1) x.2 (xf x.2) (pf x.2))):=by rw [heap_ne hne,heap_ne hne]; exact Hob.out
        clear g3 g3f g5 g5f g7 K1 hq1 hgk hsl HH1 HF Hob
        generalize (w1.setCell ⟨sb,3,none⟩ (.bool true)).setCell ⟨sb,5,none⟩ (.pointer none)=V at K2 hob2 ⊢
        obtain ⟨gk,ck,hgB,hat8,hkd⟩:=HR.out.kinds
        obtain ⟨hru,hgru⟩:=hkd _ hxN h7
        have k0:V.cell? ⟨l,0,none⟩=some (bp at_):=by rw [← hσ]; exact ((K2.pick 2).split).cells.1 0
        have kat:V.cell? ⟨at_,8,none⟩=some (.slice (some ⟨gk,0,none⟩) nr ck):=by rw [K2.old.1 _ _ HR.out.atlt]; exact hat8
        have kg:V.cell? ⟨gk,ru x.1,none⟩=some (.int .i64 (kindOf x.1)):=by rw [K2.old.1 _ _ hgB]; exact hgru
        have kr:V.cell? ⟨bk x.1,3,none⟩=some (.int .i64 (ru x.1)):=by rw [K2.old.1 _ _ (HR.out.blt _ hxN)]; exact HR.out.ruc _ hxN
        have kc1:V.cell? ⟨cb,1,none⟩=some (.iface (ty (kd x.1)) (bp (bk x.1))):=(cells_at hob2).1 1
        have k4:V.cell? ⟨sb,4,none⟩=some (.int .i64 0):=K2.cells.1 4
        have k4f:V.frozen? ⟨sb,4,none⟩=false:=K2.cells.2 4
        have hok7:KOk 7:=h7 ▸ hok
        have kn0:(0:Int)≤(ru x.1:Int):=Int.natCast_nonneg _
        have kn1:(ru x.1:Int)<(nr:Int):=by omega
        have K3:=Lib.hid (K2.setCell (off:=4) (.int .i64 (kindOf x.1)))
        have KS:∀ W,W=V.setCell ⟨sb,4,none⟩ (.int .i64 (kindOf x.1))→W.cell? ⟨l,0,none⟩=some (bp at_)∧W.cell? ⟨at_,8,none⟩=some (.slice (some ⟨gk,0,none⟩) nr ck)∧W.cell? ⟨gk,ru x.1,none⟩=some (.int .i64 (kindOf x.1))∧W.cell? ⟨bk x.1,3,none⟩=some (.int .i64 (ru x.1))∧W.cell? ⟨cb,1,none⟩=some (.iface (ty (kd x.1)) (bp (bk x.1))):=by
          rintro W rfl
          refine ⟨?_,?_,?_,?_,?_⟩
          · rw [← hσ]; exact ((K3.out.pick 2).split).cells.1 0
          · rw [K3.out.old.1 _ _ HR.out.atlt]; exact hat8
          · rw [K3.out.old.1 _ _ hgB]; exact hgru
          · rw [K3.out.old.1 _ _ (HR.out.blt _ hxN)]; exact HR.out.ruc _ hxN
          · rw [cell_ne hne]; exact kc1
        have KS:=KS _ rfl
        clear K2 hob2 hat8 hkd hgru
        go_region_held3 (fun w'=>w'.cell? ⟨l,0,none⟩=some (bp at_)∧w'.cell? ⟨at_,8,none⟩=some (.slice (some ⟨gk,0,none⟩) nr ck)∧w'.cell? ⟨gk,ru x.1,none⟩=some (.int .i64 (kindOf x.1))∧w'.cell? ⟨bk x.1,3,none⟩=some (.int .i64 (ru x.1))∧w'.cell? ⟨cb,1,none⟩=some (.iface (ty (kd x.1)) (bp (bk x.1))))
          (first
            | go_keep
            | exact KS)
          (first
            | (go_at_call 104; refine (c104 _ _ _ (by exact kc1)).mono ?_; rintro e w' ⟨rfl,rfl⟩)
            | (go_at_call 286; refine (c286 _ _ _ (by exact kr)).mono ?_; rintro e w' ⟨rfl,rfl⟩)
            | (go_at_call 105; refine (c105 (by exact k4) (by exact k4f) rfl).mono ?_; rintro e w' ⟨rfl,rfl⟩))
        have HT4:St B w0 (pts sb 178 (dsC (-1) b true (kindOf x.1))::SetP kd bk xf pf b S.cf S.ask false (-1)::SimP l σ dps::(DfaL kd bk xf pf d ats dec m++r)) _:=K3.out.drew
        clear K3 KS k0 kat kg kr kc1 k4 k4f
        generalize (V.setCell ⟨sb,4,none⟩ (.int .i64 (kindOf x.1))).drew=w4 at HT4 ⊢
        have HT:=Lib.hid HT4
        clear HT4
        go_wp2_with fail
        have hP:=pre_of HT.out
        have hl2:=hP.l2
        have hl9:=hP.l9
        have hgd:w4.cell? ⟨σ.ds,0,none⟩=some (bp d):=hP.gd.trans hd
        have HP:=Lib.hid hP
        have h0:(0:Int)<(σ.nd:Int):=by omega
        clear hP
        cases hf:D.find hS S.cf with
        | some k1 =>
          go_wp2_with (first
              | (go_quiet (fail)))
          go_at_call 106
          have h106:=c106 (s:=⟨sb,b,S.cf,S.ask,false,-1,true,kindOf x.1,none,[]⟩) HR.out.toNetB Hcx.out Hm.out.toDMb (X:=X) (r:=SimP l σ dps::r) (by simp [hX]) ⟨hS1,HS2.out,hl1⟩ (by omega) hl4 (HP.out.drewN nq).st
          refine h106.mono ?_
          rintro e w2 ⟨⟨a',c',H3⟩,hget⟩
          unfold GetIs at hget
          simp only [hf] at hget
          obtain ⟨x1,hx1,rfl⟩:=hget
          have h5a:=(DfaL.c5 H3).1
          have h5b:=(DfaL.c5 H3).2
          have HF3:=Lib.hid (add_found (s:=⟨sb,b,S.cf,S.ask,false,-1,true,kindOf x.1,none,[]⟩) Hm.out ⟨hS1,HS2.out,HS3.out,hl1,hl2'⟩ hf hx1 H3)
          clear h106 H3
          cases sup
          all_goals
            go_wp2_with (first
              | (go_at_call 109; refine (c109 h5a h5b).mono ?_; rintro e w3 ⟨rfl,rfl⟩))
            go_ret
          · exact HF3.out.start'
          · exact HF3.out
        | none =>
          go_wp2_with (first
              | (go_quiet (fail)))
          go_at_call 106
          have h106:=c106 (s:=⟨sb,b,S.cf,S.ask,false,-1,true,kindOf x.1,none,[]⟩) HR.out.toNetB Hcx.out Hm.out.toDMb (X:=X) (r:=SimP l σ dps::r) (by simp [hX]) ⟨hS1,HS2.out,hl1⟩ (by omega) hl4 (HP.out.drewN nq).st
          refine h106.mono ?_
          rintro e w2 ⟨⟨a',c',H3⟩,hget⟩
          unfold GetIs at hget
          simp only [hf] at hget
          obtain ⟨v,rfl⟩:=hget
          obtain ⟨⟨x0,p0⟩,f0,⟨x8,p8⟩,f8,⟨x2,p2⟩,f2,⟨x1,p1⟩,f1,H4⟩:=prep_keep (s:=⟨sb,b,S.cf,S.ask,false,-1,true,kindOf x.1,none,[]⟩) (n:=m.ms.length) rfl rfl H3
          have h107':=c107 (Hm.out.toDMb.ask _) H3
          have h107:Calls Tryz.prog 107 #[bp d] w2 fun e w'=>e=.returned (.int .i64 m.ms.length)∧w2=w':=h107'
          have h108:=c108 (s:=SM.kept ⟨sb,b,S.cf,S.ask,false,-1,true,kindOf x.1,none,[]⟩ m.ms.length) (X:=X) (r:=SimP l σ dps::r) HR.out.toNetB Hcx.out (Hm.out.toDMb.ask _) (by simp [hX]) rfl ⟨hS1,HS2.out,hl1⟩ (by simp [DM.ask]; omega) hl4 hf H4
          have H108:=Lib.hid h108
          clear h106 H3 H4 h108
          cases sup
          all_goals
            go_wp2_with (first
              | (go_at_call 107; refine h107.mono ?_; rintro e w' ⟨rfl,rfl⟩)
              | (go_at_call 108; refine H108.out.mono ?_; rintro e w3 ⟨⟨v,rfl⟩,a2,c2,st,bks,hbo,H5⟩
                 have h5a:=(DfaL.c5 H5).1
                 have h5b:=(DfaL.c5 H5).2
                 have HF3:=Lib.hid (add_kept (s:=⟨sb,b,S.cf,S.ask,false,-1,true,kindOf x.1,none,[]⟩) Hm.out ⟨hS1,HS2.out,HS3.out,hl1,hl2'⟩ hf rfl HA.out hbo H5)
                 clear H5)
              | (go_at_call 109; refine (c109 h5a h5b).mono ?_; rintro e w3 ⟨rfl,rfl⟩))
            go_ret
          · exact HF3.out.start'
          · exact HF3.out
      · have hns:NoStop (kd x.1):=⟨hok,h7⟩
        go_wp2_with (first
          | (go_at_call 104; refine (c104 _ _ _ hq1).mono ?_; rintro e w' ⟨rfl,rfl⟩))
        rw [show ((k:Int)+1)=((k+1:Nat):Int) from by omega]
        refine ⟨⟨k+1,hlt,rfl,rfl,fun j y hj hy => ?_⟩,meas_lt hlt⟩
        by_cases e:j=k
        · subst e
          rw [Hx.out] at hy
          cases hy
          rw [Hst.out _ hxN]
          simpa using h7
        · exact Hpre.out j y (by omega) hy
    · have hk2 : ¬ (k:Int)<(S.cf.length:Int):=by omega
      have hacc:=accd_none (stop:=stop) (L:=S.cf) fun j y hj hy=>Hpre.out j y (by omega) hy
      have HA:=Lib.hid (show (false=(Lx.accd stop S.cf).isSome∧∀ y,Lx.accd stop S.cf=some y→(0:Int)=kindOf y.1) from by rw [hacc]; exact ⟨rfl,fun y e=>by cases e⟩)
      have HT:=HH1
      go_wp2_with fail
      have hP:=pre_of HT.out
      have hl2:=hP.l2
      have hl9:=hP.l9
      have hgd:w1.cell? ⟨σ.ds,0,none⟩=some (bp d):=hP.gd.trans hd
      have HP:=Lib.hid hP
      have h0:(0:Int)<(σ.nd:Int):=by omega
      clear hP
      cases hf:D.find hS S.cf with
      | some k1 =>
        go_wp2_with (first
            | (go_quiet (fail)))
        go_at_call 106
        have h106:=c106 (s:=⟨sb,b,S.cf,S.ask,false,-1,false,0,none,[]⟩) HR.out.toNetB Hcx.out Hm.out.toDMb (X:=X) (r:=SimP l σ dps::r) (by simp [hX]) ⟨hS1,HS2.out,hl1⟩ (by omega) hl4 (HP.out.drewN nq).st
        refine h106.mono ?_
        rintro e w2 ⟨⟨a',c',H3⟩,hget⟩
        unfold GetIs at hget
        simp only [hf] at hget
        obtain ⟨x1,hx1,rfl⟩:=hget
        have h5a:=(DfaL.c5 H3).1
        have h5b:=(DfaL.c5 H3).2
        have HF3:=Lib.hid (add_found (s:=⟨sb,b,S.cf,S.ask,false,-1,false,0,none,[]⟩) Hm.out ⟨hS1,HS2.out,HS3.out,hl1,hl2'⟩ hf hx1 H3)
        clear h106 H3
        cases sup
        all_goals
          go_wp2_with (first
            | (go_at_call 109; refine (c109 h5a h5b).mono ?_; rintro e w3 ⟨rfl,rfl⟩))
          go_ret
        · exact HF3.out.start'
        · exact HF3.out
      | none =>
        go_wp2_with (first
            | (go_quiet (fail)))
        go_at_call 106
        have h106:=c106 (s:=⟨sb,b,S.cf,S.ask,false,-1,false,0,none,[]⟩) HR.out.toNetB Hcx.out Hm.out.toDMb (X:=X) (r:=SimP l σ dps::r) (by simp [hX]) ⟨hS1,HS2.out,hl1⟩ (by omega) hl4 (HP.out.drewN nq).st
        refine h106.mono ?_
        rintro e w2 ⟨⟨a',c',H3⟩,hget⟩
        unfold GetIs at hget
        simp only [hf] at hget
        obtain ⟨v,rfl⟩:=hget
        obtain ⟨⟨x0,p0⟩,f0,⟨x8,p8⟩,f8,⟨x2,p2⟩,f2,⟨x1,p1⟩,f1,H4⟩:=prep_keep (s:=⟨sb,b,S.cf,S.ask,false,-1,false,0,none,[]⟩) (n:=m.ms.length) rfl rfl H3
        have h107':=c107 (Hm.out.toDMb.ask _) H3
        have h107:Calls Tryz.prog 107 #[bp d] w2 fun e w'=>e=.returned (.int .i64 m.ms.length)∧w2=w':=h107'
        have h108:=c108 (s:=SM.kept ⟨sb,b,S.cf,S.ask,false,-1,false,0,none,[]⟩ m.ms.length) (X:=X) (r:=SimP l σ dps::r) HR.out.toNetB Hcx.out (Hm.out.toDMb.ask _) (by simp [hX]) rfl ⟨hS1,HS2.out,hl1⟩ (by simp [DM.ask]; omega) hl4 hf H4
        have H108:=Lib.hid h108
        clear h106 H3 H4 h108
        cases sup
        all_goals
          go_wp2_with (first
            | (go_at_call 107; refine h107.mono ?_; rintro e w' ⟨rfl,rfl⟩)
            | (go_at_call 108; refine H108.out.mono ?_; rintro e w3 ⟨⟨v,rfl⟩,a2,c2,st,bks,hbo,H5⟩
               have h5a:=(DfaL.c5 H5).1
               have h5b:=(DfaL.c5 H5).2
               have HF3:=Lib.hid (add_kept (s:=⟨sb,b,S.cf,S.ask,false,-1,false,0,none,[]⟩) Hm.out ⟨hS1,HS2.out,HS3.out,hl1,hl2'⟩ hf rfl HA.out hbo H5)
               clear H5)
            | (go_at_call 109; refine (c109 h5a h5b).mono ?_; rintro e w3 ⟨rfl,rfl⟩))
          go_ret
        · exact HF3.out.start'
        · exact HF3.out
end Go.Proofs.YtbcngfgemjdllaaGreatDoor
end
section
namespace Go.Proofs.YtbcngfgemjdllaaGreatDoor
open Go.RowKit Go.Own
variable {kd bk xf pf ru:Nat→Nat} {B N A:Nat} {w0 w:World} {r:List HP} {X:HP} {m:DM} {D:Lx.DS}
set_option maxRecDepth 100000 in
theorem c70g {t:TypeId} (ht:t=231) {cmb:Nat} {n:Int} {d:ByteArray} (H:St B w0 r w):Calls Tryz.prog 70 #[.iface t (bp cmb),.int .i64 n,.string d] w
    fun e w'=>∃ jb mb,e=.returned (bp jb)∧St B w0 (pts jb 262 [.map (some mb),.int .i64 0,.iface t (bp cmb)]::Mp mb []::r) w':=by
  subst ht
  go_enter Tryz.func70,Tryz.ntmps70
  go_wp2_with fail
  go_ret
  refine ⟨w.heap.size+1,w.heap.size,rfl,?_⟩
  have H1:=((H.alloc (.map #[] 0)).toMp (D:=[]) rfl).alloc (ob 262 [.map (some w.heap.size),.int .i64 0,.iface 231 (bp cmb)])
  have e:(w.alloc (.map #[] 0)).heap.size=w.heap.size+1:=by
    show (w.heap.push _).size=_
    rw [Array.size_push]
  rw [e] at H1
  exact H1
theorem c55 (H:St B w0 r w):Calls Tryz.prog 55 #[.bool false] w fun e w'=>∃ b,e=.returned (bp b)∧St B w0 r w':=by
  go_enter Tryz.func55,Tryz.ntmps55
  go_wp2_with (first
    | (go_at_call 70; refine (c70g rfl (H.alloc _)).mono ?_; rintro e w' ⟨jb,mb,rfl,H1⟩))
  go_ret
  exact ⟨_,rfl,(((H1.drop.drop).drop).alloc (ob 221 (setL (.slice none 0 0) (.slice none 0 0) (-1) jb false))).drop⟩
theorem c114 (H:St B w0 r w):Calls Tryz.prog 114 #[] w fun e w'=>∃ b,e=.returned (bp b)∧St B w0 (ErP b::r) w':=by
  go_enter Tryz.func114,Tryz.ntmps114
  go_wp2_with (first
    | (go_at_call 55; refine (c55 H).mono ?_; rintro e w1 ⟨b,rfl,H1⟩)
    | (go_at_call 54; refine (c54 H1).mono ?_; rintro e w2 ⟨sb,rfl,H2⟩))
  go_ret
  exact ⟨sb,rfl,H2.imp fun h hh=>⟨_,rfl,hh⟩⟩
theorem c77 {b:Nat} {n:Int} (hc:w.cell? ⟨b,0,none⟩=some (.int .i64 n)):Calls Tryz.prog 77 #[bp b] w fun e w'=>e=.returned (.bool (n == 2147483647))∧w=w':=by
  go_enter Tryz.func77,Tryz.ntmps77
  go_wp2_with fail
  go_ret
  exact ⟨rfl,rfl⟩
theorem c111 {b g n c k:Nat} {v:Value} (hc:w.cell? ⟨b,2,none⟩=some (.slice (some ⟨g,0,none⟩) n c)) (hk:k<n) (hv:w.cell? ⟨g,k,none⟩=some v):Calls Tryz.prog 111 #[bp b,.int .i64 k] w fun e w'=>e=.returned v∧w=w':=by
  have hk0:(0:Int)≤(k:Int):=Int.natCast_nonneg _
  have hk1:(k:Int)<(n:Int):=by omega
  go_enter Tryz.func111,Tryz.ntmps111
  go_wp2_with fail
  go_ret
  exact ⟨rfl,rfl⟩
theorem c154 {b g n c:Nat} {x:Value} (hc:w.cell? ⟨b,2,none⟩=some x) (hf:w.frozen? ⟨b,2,none⟩=false):Calls Tryz.prog 154 #[bp b,.slice (some ⟨g,0,none⟩) n c] w fun e w'=>e=.returned (.tuple #[])∧w'=w.setCell ⟨b,2,none⟩ (.slice (some ⟨g,0,none⟩) n c):=by
  go_enter Tryz.func154,Tryz.ntmps154
  go_wp2_with fail
  go_end0
  exact ⟨rfl,rfl⟩
theorem c155 {b g n c k p:Nat} {x:Value} (hc:w.cell? ⟨b,2,none⟩=some (.slice (some ⟨g,0,none⟩) n c)) (hk:k<n) (hv:w.cell? ⟨g,k,none⟩=some x) (hf:w.frozen? ⟨g,k,none⟩=false):Calls Tryz.prog 155 #[bp b,.int .i64 k,bp p] w fun e w'=>e=.returned (.tuple #[])∧w'=w.setCell ⟨g,k,none⟩ (bp p):=by
  have hk0:(0:Int)≤(k:Int):=Int.natCast_nonneg _
  have hk1:(k:Int)<(n:Int):=by omega
  go_enter Tryz.func155,Tryz.ntmps155
  go_wp2_with fail
  go_end0
  exact ⟨rfl,rfl⟩
def ChP (ib:Nat) (sa:Option Addr) (cap:Nat) (t:List Nat) (pos:Nat):HP:=star (pts ib 126 [.slice sa t.length cap,.int .i64 pos]) (Osl (.slice sa t.length cap) 21 1 t.length (t.map fun c:Nat=>Value.int .i32 (c:Int)))
def la (t:List Nat) (pos:Nat):Int:=match t[pos]? with
  | some c=>c
  | none => -1
theorem ChP.cell {ib cap pos:Nat} {sa:Option Addr} {t:List Nat} (H:St B w0 (ChP ib sa cap t pos::r) w):w.cell? ⟨ib,0,none⟩=some (.slice sa t.length cap)∧w.cell? ⟨ib,1,none⟩=some (.int .i64 pos)∧w.frozen? ⟨ib,1,none⟩=false ∧
    ∀ c,t[pos]? = some c→∃ g,sa=some ⟨g,0,none⟩∧w.cell? ⟨g,pos,none⟩=some (.int .i32 (c:Int)):=by
  have H1:=H.split
  refine ⟨H1.cells.1 0,H1.cells.1 1,H1.cells.2 1,fun c hc => ?_⟩
  rcases (H1.pick 1).ownCell with ⟨_,h0,_⟩ | ⟨g,cap',e,_,hcell,_⟩
  · rw [List.eq_nil_of_length_eq_zero h0] at hc; simp at hc
  · refine ⟨g,by injection e,hcell _ _ ?_⟩
    rw [List.getElem?_map,hc]; rfl
theorem ChP.move {ib cap pos:Nat} {sa:Option Addr} {t:List Nat} (H:St B w0 (ChP ib sa cap t pos::r) w) (p:Nat):St B w0 (ChP ib sa cap t p::r) (w.setCell ⟨ib,1,none⟩ (.int .i64 p)):=(H.split.setCell (off:=1) (.int .i64 p)).join
theorem c277 {ib cap pos:Nat} {sa:Option Addr} {t:List Nat} (ht:∀ c ∈ t,c≤127) (hl:pos≤t.length) (hl2:t.length<1099511627776) (H:St B w0 (ChP ib sa cap t pos::r) w):Calls Tryz.prog 277 #[bp ib,.int .i64 1] w fun e w'=>e=.returned (.int .i64 (la t pos))∧w=w':=by
  obtain ⟨h0,h1,_,hc⟩:=ChP.cell H
  have hw1:wrap64 (pos+1:Int)=pos+1:=IntWalk.wrap64_in _ (by omega)
  have hw2:wrap64 ((pos:Int)+1 - 1)=pos:=by rw [IntWalk.wrap64_in _ (by omega)]; omega
  have hk0:(0:Int)≤(pos:Int):=Int.natCast_nonneg _
  cases hp:t[pos]? with
  | some c =>
    obtain ⟨g,rfl,hg⟩:=hc c hp
    have hlt:=(List.getElem?_eq_some_iff.1 hp).1
    have hk1:(pos:Int)<(t.length:Int):=by omega
    have hn : ¬ (t.length:Int)≤(pos:Int):=by omega
    have hla:la t pos=(c:Int):=by unfold la; rw [hp]
    rw [hla]
    clear H hc
    go_enter Tryz.func277,Tryz.ntmps277
    go_wp2_with fail
    go_ret
    have hc7:=ht c (List.mem_of_getElem? hp)
    have hwc:wrap64 (c:Int)=c:=IntWalk.wrap64_in _ (by omega)
    exact ⟨by first | rfl | (rw [hwc]; rfl),rfl⟩
  | none =>
    have hk1:(pos:Int)=(t.length:Int):=by rw [List.getElem?_eq_none_iff] at hp; omega
    have hla:la t pos = -1:=by unfold la; rw [hp]
    rw [hla]
    clear H hc
    go_enter Tryz.func277,Tryz.ntmps277
    go_wp2_with fail
    go_ret
    exact ⟨rfl,rfl⟩
theorem c276 {ib cap pos:Nat} {sa:Option Addr} {t:List Nat} (hl:pos<1099511627776) (H:St B w0 (ChP ib sa cap t pos::r) w):Calls Tryz.prog 276 #[bp ib] w fun e w'=>e=.returned (.tuple #[])∧w'=w.setCell ⟨ib,1,none⟩ (.int .i64 ((pos+1:Nat):Int)):=by
  obtain ⟨h0,h1,h2,_⟩:=ChP.cell H
  have hw:wrap64 ((pos:Int)+1)=((pos+1:Nat):Int):=by rw [IntWalk.wrap64_in _ (by omega)]; rfl
  go_enter Tryz.func276,Tryz.ntmps276
  go_wp2_with fail
  go_end0
  refine ⟨rfl,?_⟩
  first | rfl | rw [hw]
theorem c216 {a b:Nat} (h:a≤b):Calls Tryz.prog 216 #[.int .i64 a,.int .i64 b] w fun e w'=>e=.returned (.int .i64 a)∧w=w':=by
  by_cases e:a=b
  · subst e
    have hn : ¬ (a:Int)<(a:Int):=by omega
    go_enter Tryz.func216,Tryz.ntmps216
    go_wp2_with fail
    go_ret
    exact ⟨rfl,rfl⟩
  · have hn:(a:Int)<(b:Int):=by omega
    go_enter Tryz.func216,Tryz.ntmps216
    go_wp2_with fail
    go_ret
    exact ⟨rfl,rfl⟩
theorem c280 {ib cap pos p:Nat} {sa:Option Addr} {t:List Nat} (hl:p≤t.length) (H:St B w0 (ChP ib sa cap t pos::r) w):Calls Tryz.prog 280 #[bp ib,.int .i64 p] w fun e w'=>e=.returned (.tuple #[])∧w'=w.setCell ⟨ib,1,none⟩ (.int .i64 p):=by
  obtain ⟨h0,h1,h2,_⟩:=ChP.cell H
  go_enter Tryz.func280,Tryz.ntmps280
  go_wp2_with (first
    | (go_at_call 216; refine (c216 hl).mono ?_; rintro e w' ⟨rfl,rfl⟩))
  go_end0
  exact ⟨rfl,rfl⟩
theorem c278 {ib:Nat} : Calls Tryz.prog 278 #[bp ib] w fun e w'=>e=.returned (.int .i64 (-1))∧w=w':=by
  go_enter Tryz.func278,Tryz.ntmps278
  go_wp2_with fail
  go_ret
  exact ⟨rfl,rfl⟩
theorem c279 {ib:Nat} {v:Value} : Calls Tryz.prog 279 #[bp ib,v] w fun e w'=>e=.returned (.tuple #[])∧w=w':=by
  go_enter Tryz.func279,Tryz.ntmps279
  go_wp2_with fail
  go_end0
  exact ⟨rfl,rfl⟩
end Go.Proofs.YtbcngfgemjdllaaGreatDoor
end
