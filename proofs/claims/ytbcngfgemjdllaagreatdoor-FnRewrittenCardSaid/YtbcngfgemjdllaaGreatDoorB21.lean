/- Part 21: D27, D28, D29, D30, D31. -/
import Derived.Test.YtbcngfgemjdllaaGreatDoorB20
set_option linter.unusedVariables false
set_option linter.unusedSimpArgs false
section
namespace Go.Proofs.YtbcngfgemjdllaaGreatDoor
open Go.RowKit Go.Own
variable {kd bk xf pf:Nat→Nat} {B N A:Nat} {w0 w:World} {r:List HP} {X:HP} {s:SM} {m:DM} {D:Lx.DS} {stop:Nat→Bool} {kindOf:Nat→Int}
structure BksOk (ms:List SM) (bks:List BK):Prop where
  bk:∀ q ∈ bks,q.ks=(ms.filter fun s=>hS s.L == q.h).map SM.sb
  bkh:∀ s ∈ ms,∃ q ∈ bks,q.h=hS s.L
  bkn:(bks.map BK.h).Nodup
theorem filt_push {ms:List SM} {s:SM} {h:Int} : (ms++[s]).filter (fun s=>hS s.L == h)=ms.filter (fun s=>hS s.L == h)++(if hS s.L=h then [s] else []):=by
  rw [List.filter_append]
  congr 1
  by_cases e:hS s.L=h
  · simp [e]
  · simp [e]
theorem bks_new {ms:List SM} {bks:List BK} {s:SM} {a:Option Addr} {c:Nat} (hb:BksOk ms bks) (hn:∀ q ∈ bks,q.h≠hS s.L):BksOk (ms++[s]) (bks++[⟨hS s.L,a,c,[s.sb]⟩]):=by
  refine ⟨fun q hq => ?_,fun s' hs' => ?_,?_⟩
  · rw [filt_push]
    rcases List.mem_append.1 hq with hq | hq
    · rw [if_neg fun e=>hn q hq e.symm,List.append_nil]; exact hb.bk q hq
    · simp at hq
      subst hq
      have:ms.filter (fun s'=>hS s'.L == hS s.L)=[]:=by
        rw [List.filter_eq_nil_iff]
        intro s' hs'
        obtain ⟨q,hq,hh⟩:=hb.bkh s' hs'
        have:=hn q hq
        rw [hh] at this
        simpa using this
      simp [this]
  · rcases List.mem_append.1 hs' with hs' | hs'
    · obtain ⟨q,hq,hh⟩:=hb.bkh s' hs'; exact ⟨q,by simp [hq],hh⟩
    · simp at hs'; subst hs'; exact ⟨_,List.mem_append_right _ (List.mem_singleton.2 rfl),rfl⟩
  · rw [List.map_append,List.nodup_append]
    refine ⟨hb.bkn,by simp,fun x hx y hy => ?_⟩
    simp at hy
    obtain ⟨q,hq,rfl⟩:=List.mem_map.1 hx
    rw [hy]
    exact hn q hq
theorem bks_old {ms:List SM} {bks:List BK} {s:SM} {i:Nat} {q:BK} {a:Option Addr} {c:Nat} (hb:BksOk ms bks) (hi:bks[i]? = some q) (hh:q.h=hS s.L):BksOk (ms++[s]) (bks.set i ⟨hS s.L,a,c,q.ks++[s.sb]⟩):=by
  have hlt:=(List.getElem?_eq_some_iff.1 hi).1
  have hmap:(bks.set i ⟨hS s.L,a,c,q.ks++[s.sb]⟩).map BK.h=bks.map BK.h:=by
    rw [List.map_set]
    apply List.ext_getElem?
    intro j
    rw [List.getElem?_set]
    split
    · rename_i e; subst e; rw [if_pos (by simpa using hlt),List.getElem?_map,hi]; simp [hh]
    · rfl
  refine ⟨fun q' hq' => ?_,fun s' hs' => ?_,by rw [hmap]; exact hb.bkn⟩
  · obtain ⟨j,hj⟩:=List.mem_iff_getElem?.1 hq'
    rw [List.getElem?_set] at hj
    rw [filt_push]
    split at hj
    · rename_i e
      simp at hj
      obtain ⟨_,hj⟩:True∧_:=⟨trivial,hj⟩
      subst hj
      simp only [if_true,List.map_append,List.map_cons,List.map_nil]
      rw [hb.bk q (List.mem_of_getElem? hi),hh]
    · rename_i hne
      have hq2:q' ∈ bks:=List.mem_of_getElem? hj
      have hne2:hS s.L≠q'.h:=by
        intro e
        have h1:(bks.map BK.h)[i]? = some (hS s.L):=by rw [List.getElem?_map,hi]; simp [hh]
        have h2:(bks.map BK.h)[j]? = some (hS s.L):=by rw [List.getElem?_map,hj]; simp [e]
        exact hne ((List.getElem?_inj (by simpa using hlt) hb.bkn).1 (h1.trans h2.symm))
      rw [if_neg hne2,List.append_nil]
      exact hb.bk q' hq2
  · have hx:hS s'.L ∈ bks.map BK.h:=by
      rcases List.mem_append.1 hs' with hs' | hs'
      · obtain ⟨q',hq',e⟩:=hb.bkh s' hs'; rw [← e]; exact List.mem_map_of_mem hq'
      · simp at hs'; subst hs'; rw [← hh]; exact List.mem_map_of_mem (List.mem_of_getElem? hi)
    rw [← hmap] at hx
    obtain ⟨q',hq',e⟩:=List.mem_map.1 hx
    exact ⟨q',hq',e⟩
def DM.put (m:DM) (s:SM) (bks:List BK):DM := { m with ms:=m.ms++[s],bks:=bks }
theorem SetW.ch {b off:Nat} {L Aq:List Lx.Cf} {ro:Bool} {ch ch':Int} {av cv jp:Value} {ms:List CfM} (H:St B w0 (SetW kd bk xf pf b L Aq ro ch av cv jp ms++r) w):St B w0 (SetW kd bk xf pf b L Aq ro ch' av cv jp ms++r) (w.setCell ⟨b,1,none⟩ (.int .i64 ch')):=by
  unfold SetW at H ⊢
  have:=St.setCell (off:=1) H (.int .i64 ch')
  simpa [setK] using this
set_option maxHeartbeats 1000000 in
theorem c149_dfa {js mb cm:Nat} (h:NetB kd bk B w0 N) (hcx:CtxX xf pf B w0 X A) (hX:X ∈ r) (hm:DMb N A m D) (hst:m.st=some (js,mb,cm)) (hro:s.ro=true)
    (hs:s.L≠[]∧(∀ x ∈ s.L,x.1<N∧x.2<A)∧s.L.length<1099511627776) (hl:m.ms.length<1099511627776) (hfind:D.find hS s.L=none)
    (H:St B w0 (SetP kd bk xf pf s.b s.L s.A true (-1)::pts s.sb 178 s.cells::EdP s::StoP m::stars (m.ms.map (SP kd bk xf pf))::r) w) :
    Calls Tryz.prog 149 #[bp js,bp s.sb] w fun e w'=>e=.returned (.tuple #[bp s.sb,.bool false])∧∃ bks,BksOk (m.ms++[s]) bks ∧
      St B w0 (StoP (m.put s bks)::stars ((m.put s bks).ms.map (SP kd bk xf pf))::r) w':=by
  obtain ⟨av,cv,jp,cms,hk,H1⟩:=SetP.opn H
  obtain ⟨sa,cap,rfl,hF⟩:=SetW.fsw h hcx (by simp [hX]) hs.2.1 hk H1
  have hb0:=H1.heap.2
  have hsb:=(H1.pick 4).heap.2
  have h1:w.cell? ⟨s.sb,1,none⟩=some (bp s.b):=(cells_at hsb).1 1
  have h96:=c96_set hF (by omega) ((cells_at hb0).1 8) ((cells_at hb0).1 1) ((cells_at hb0).2 1)
  have h331:Calls Tryz.prog 331 #[bp cm,bp s.sb] w fun e w'=>e=.returned (.int .i64 (hS s.L))∧w'=w.setCell ⟨s.b,1,none⟩ (.int .i64 (hL s.L)):=c331 (v:=bp cm) (c68 h1 h96)
  have H2:=SetP.cls hk (SetW.ch (off:=1) (ch':=kHash s.L true) H1)
  have hkh:kHash s.L true=hL s.L:=rfl
  have hj2p:w.cell? ⟨js,2,none⟩=some (.iface 355 (bp cm)):=by
    have HJ:=H.pick 3
    unfold StoP at HJ
    rw [hst] at HJ
    exact HJ.splits.cells.1 2
  rw [hkh] at H2
  generalize w.setCell ⟨s.b,1,none⟩ (.int .i64 (hL s.L))=w2 at h331 H2
  have H3:St B w0 (SP kd bk xf pf s::StoP m::stars (m.ms.map (SP kd bk xf pf))::r) w2:=SP.whole (s:=s) (by rw [hro]; exact H2)
  have HS:=H3.pick 1
  unfold StoP at HS
  rw [hst] at HS
  have HT:=HS.splits
  simp only [List.cons_append,List.nil_append] at HT
  have hlen:((m.ms++[s]).length:Int)=(m.ms.length:Int)+1:=by simp
  have hclose:∀ (bks:List BK) (w':World),St B w0 (pts js 453 [.map (some mb),.int .i64 ((m.ms.length:Int)+1),.iface 355 (bp cm)]::Mp mb (bks.map BK.kv)::stars (bks.map BK.P)::SP kd bk xf pf s::stars (m.ms.map (SP kd bk xf pf))::r) w' →
      St B w0 (StoP (m.put s bks)::stars ((m.put s bks).ms.map (SP kd bk xf pf))::r) w':=by
    intro bks w' H'
    have H4:St B w0 ([pts js 453 (jsC mb cm (m.ms++[s]).length),Mp mb (bks.map BK.kv),stars (bks.map BK.P)]++(SP kd bk xf pf s::stars (m.ms.map (SP kd bk xf pf))::r)) w':=by
      unfold jsC
      rw [hlen]
      exact H'
    have H5:=(H4.joins.pick 2).pick 2
    have H6:=(H5.perm (r:=SP kd bk xf pf s::stars (m.ms.map (SP kd bk xf pf))::stars _::r) (List.Perm.refl _)).pushMap
    have e:StoP (m.put s bks)=stars [pts js 453 (jsC mb cm (m.ms++[s]).length),Mp mb (bks.map BK.kv),stars (bks.map BK.P)]:=by
      unfold StoP DM.put
      simp only [hst]
    rw [e]
    exact H6.pick 1
  have hbo:BksOk m.ms m.bks:=⟨hm.bk,hm.bkh,hm.bkn⟩
  cases hf:mfind (hS s.L) (m.bks.map BK.kv) with
  | none =>
    refine (c149 (ps:=[]) (a:=none) (c:=0) hj2p h331 (by rw [hf]; rfl) ⟨fun hne=>absurd rfl hne,fun i p hi=>by simp at hi⟩ (by simp) (by omega) (by omega) ((((HT.ownNil 157 1).pick 1).pick 2).pick 1)).mono ?_
    rintro e w' ⟨rfl,a',c',H4⟩
    refine ⟨rfl,_,bks_new (a:=a') (c:=c') hbo (mfind_bks_none _ hf),hclose _ _ ?_⟩
    rw [mset_new hf] at H4
    have H5:St B w0 (BK.P ⟨hS s.L,a',c',[s.sb]⟩::stars (m.bks.map BK.P)::pts js 453 [.map (some mb),.int .i64 ((m.ms.length:Int)+1),.iface 355 (bp cm)]::Mp mb (m.bks.map BK.kv++[(hS s.L,.slice a' 1 c')])::SP kd bk xf pf s::stars (m.ms.map (SP kd bk xf pf))::r) w':=(H4.pick 3).pick 3
    have e:(m.bks++[(⟨hS s.L,a',c',[s.sb]⟩:BK)]).map BK.kv=m.bks.map BK.kv++[(hS s.L,.slice a' 1 c')]:=by rw [List.map_append]; rfl
    rw [e]
    exact (H5.pushMap.pick 2).pick 2
  | some u =>
    obtain ⟨i,q,hq,hh,hu,hset⟩:=mset_bks _ hf
    have hqm:q ∈ m.bks:=List.mem_of_getElem? hq
    have hks:q.ks=(bkt m s.L).map SM.sb:=by rw [hm.bk q hqm,hh]; rfl
    obtain ⟨k0,k2,ksm,a,c,km,kL,kB⟩:=bkt_of h hcx hm hst hX hs ((H3.pick 2).pick 2)
    rw [hf,Option.getD_some,← hu] at km
    have hae:q.a=a:=by unfold BK.v at km; injection km
    have hes:∀ (i:Nat),esF m s.L i=false:=by
      intro i
      unfold Lx.DS.find at hfind
      rw [hm.sts,List.findIdx?_eq_none_iff] at hfind
      unfold esF
      cases hb:(bkt m s.L)[i]? with
      | none=>rfl
      | some s' =>
        obtain ⟨h1,h2⟩:=List.mem_filter.1 (List.mem_of_getElem? hb)
        have:=hfind s'.L (List.mem_map_of_mem h1)
        simp only at h2 ⊢
        rw [h2,Bool.true_and] at this
        rw [decide_eq_false_iff_not]
        intro e
        rw [e] at this
        simp at this
    have kB':Bkt w2 s.sb cm q.a q.ks (fun _=>false):=by
      rw [hks,hae]
      exact ⟨kB.row,fun i p hi k=>by have:=kB.eq i p hi k; rw [hes i] at this; exact this⟩
    have hql:q.ks.length<1099511627776:=by
      rw [hks,List.length_map]
      have:(bkt m s.L).length≤m.ms.length:=List.length_filter_le _ _
      omega
    have HB:=((((HT.pick 2).takeMap hq).pick 2).pick 3).pick 1
    refine (c149 (ps:=q.ks) (a:=q.a) (c:=q.c) hj2p h331 (by rw [hf,← hu]; rfl) kB' hql (by omega) (by omega) HB).mono ?_
    rintro e w' ⟨rfl,a',c',H4⟩
    refine ⟨rfl,_,bks_old (a:=a') (c:=c') hbo hq hh,hclose _ _ ?_⟩
    have el:(q.ks++[s.sb]).length=q.ks.length+1:=by simp
    have hsv:=hset ⟨hS s.L,a',c',q.ks++[s.sb]⟩ rfl
    have ev:BK.v ⟨hS s.L,a',c',q.ks++[s.sb]⟩=.slice a' (q.ks.length+1) c':=by unfold BK.v; rw [el]
    rw [ev] at hsv
    rw [hsv] at H4
    have eP:BK.P ⟨hS s.L,a',c',q.ks++[s.sb]⟩=Osl (.slice a' (q.ks.length+1) c') 157 1 (q.ks.length+1) (q.ks.map bp++[bp s.sb]):=by
      unfold BK.P
      rw [ev,el,List.map_append]
      rfl
    rw [← eP] at H4
    have H5:=((H4.pick 3).pick 3).putMap (f:=BK.P) (List.getElem?_eq_some_iff.1 hq).1
    exact (H5.pick 2).pick 2
end Go.Proofs.YtbcngfgemjdllaaGreatDoor
end
section
namespace Go.Proofs.YtbcngfgemjdllaaGreatDoor
open Go.RowKit Go.Own
variable {kd bk xf pf:Nat→Nat} {B N A:Nat} {w0 w:World} {r:List HP} {X:HP} {s:SM} {m:DM} {D:Lx.DS} {stop:Nat→Bool} {kindOf:Nat→Int}
@[go_sem] theorem run_makeMap2 (w:World):(Instr.makeMap 449 (some (.int .i64 1))).run Tryz.prog w=.ok (.map (some w.heap.size)) (w.alloc (.map #[] 0)):=by
  simp [Instr.makeMap,run_underlying mt449.und,asInt,asIntOf]
set_option maxRecDepth 100000 in
theorem c148 {cm:Nat} {n:Int} {d:ByteArray} (H:St B w0 r w):Calls Tryz.prog 148 #[.iface 355 (bp cm),.int .i64 n,.string d] w
    fun e w'=>∃ js mb,e=.returned (bp js)∧St B w0 (pts js 453 [.map (some mb),.int .i64 0,.iface 355 (bp cm)]::Mp mb []::r) w':=by
  go_enter Tryz.func148,Tryz.ntmps148
  go_wp2_with fail
  go_ret
  refine ⟨w.heap.size+1,w.heap.size,rfl,?_⟩
  have H1:=((H.alloc (.map #[] 0)).toMp (D:=[]) rfl).alloc (ob 453 [.map (some w.heap.size),.int .i64 0,.iface 355 (bp cm)])
  have e:(w.alloc (.map #[] 0)).heap.size=w.heap.size+1:=by
    show (w.heap.push _).size=_
    rw [Array.size_push]
  rw [e] at H1
  exact H1
theorem c107 {d:Nat} {ats:Value} {dec:Int} (hm:DMb N A m D) (H:St B w0 (DfaL kd bk xf pf d ats dec m++r) w):Calls Tryz.prog 107 #[bp d] w fun e w'=>e=.returned (.int .i64 m.ms.length)∧w=w':=by
  unfold DfaL dfaC at H
  simp only [List.cons_append,List.nil_append] at H
  have hd3:=H.cells.1 3
  simp only [List.getElem?_cons_zero,List.getElem?_cons_succ] at hd3
  cases hst:m.st with
  | none =>
    have hz:=(hm.st hst).1
    rw [hst] at hd3
    simp only [Option.map_none] at hd3
    go_enter Tryz.func107,Tryz.ntmps107
    go_wp2
    go_ret
    rw [hz]
    exact ⟨rfl,rfl⟩
  | some t =>
    obtain ⟨js,mb,cm⟩:=t
    rw [hst] at hd3
    simp only [Option.map_some] at hd3
    have hj1:w.cell? ⟨js,1,none⟩=some (.int .i64 m.ms.length):=by
      have HJ:=H.pick 2
      unfold StoP at HJ
      rw [hst] at HJ
      exact HJ.splits.cells.1 1
    go_enter Tryz.func107,Tryz.ntmps107
    go_wp2_with (first | (go_at_call 147; refine (c147 _ _ _ hj1).mono ?_; rintro e w' ⟨rfl,rfl⟩))
    go_ret
    exact ⟨rfl,rfl⟩
def DM.keep (m:DM) (s:SM) (av:Value) (st:Nat × Nat × Nat) (bks:List BK):DM := { m with av:=av,aq:=m.aq++[(s.sb,s.L,s.A)],st:=some st,ms:=m.ms++[s],bks:=bks }
theorem DfaL_keep {d:Nat} {ats:Value} {dec:Int} {v:Value} {st:Nat × Nat × Nat} {bks:List BK} {m':DM} (hst:m'.st=some st) (hms:m'.ms=m.ms):DfaL kd bk xf pf d ats dec (m.keep s v st bks)=[pts d 159 [v,ats,.int .i64 dec,.pointer (some ⟨st.1,0,none⟩),.int .i64 0,.pointer (m.s0.map fun b=>⟨b,0,none⟩),.bool false],
    Osl v 157 1 (m.aq.length+1) (m.aq.map (fun q=>bp q.1)++[bp s.sb]),StoP (m'.put s bks),stars ((m'.put s bks).ms.map (SP kd bk xf pf)),stars (m.xs.map (SP kd bk xf pf)),stars (m.er.map ErP)]:=by
  simp [DfaL,DM.keep,dfaC,StoP,DM.put,hst,hms]
set_option maxRecDepth 100000 in
set_option maxHeartbeats 1000000 in
theorem c108 {d:Nat} {ats:Value} {dec:Int} (h:NetB kd bk B w0 N) (hcx:CtxX xf pf B w0 X A) (hm:DMb N A m D) (hX:X ∈ r) (hro:s.ro=true)
    (hs:s.L≠[]∧(∀ x ∈ s.L,x.1<N∧x.2<A)∧s.L.length<1099511627776) (hl:m.aq.length<1099511627776) (hl2:m.ms.length<1099511627776) (hfind:D.find hS s.L=none)
    (H:St B w0 (DfaL kd bk xf pf d ats dec m++(SetP kd bk xf pf s.b s.L s.A true (-1)::pts s.sb 178 s.cells::EdP s::r)) w) :
    Calls Tryz.prog 108 #[bp d,bp s.sb] w fun e w'=>(∃ v,e=.returned v)∧∃ a c st bks,BksOk (m.ms++[s]) bks∧St B w0 (DfaL kd bk xf pf d ats dec (m.keep s (.slice a (m.aq.length+1) c) st bks)++r) w':=by
  unfold DfaL dfaC at H
  simp only [List.cons_append,List.nil_append] at H
  obtain ⟨a0,c0,hav⟩:=(H.pick 1).ownVal
  rw [hav] at H
  have hd0:w.cell? ⟨d,0,none⟩=some (.slice a0 m.aq.length c0):=H.cells.1 0
  have hb1:m.aq.length+1≤maxLen:=by unfold maxLen; omega
  have hb2:(m.aq.length+1) * 8≤140737488355328:=by omega
  have Hm:=Lib.hid hm
  have Hh:=Lib.hid h
  have Hcx:=Lib.hid hcx
  clear hm h hcx
  cases hst:m.st with
  | none =>
    have hz:=Hm.out.st hst
    have Hm1:∀ t,DMb N A { m with st:=some t } D:=fun t => { Hm.out with st:=fun e=>by cases e }
    go_enter Tryz.func108,Tryz.ntmps108
    go_wp2_with (first
      | (at_builtin; go_must (refine wpList_append1_st rfl _ _ rfl sl155 (news:=[bp s.sb]) ((H.pick 1).alloc (ob 157 [bp s.sb])) rfl 1 rfl (by simp) rfl (by simp [Value.oneCell']) hb1 hb2 ?_); intro a' c' w1 H1
         have hd1:=(H1.pick 1).cells.1 0
         have hd3:=(H1.pick 1).cells.1 3
         have hf0:=(H1.pick 1).cells.2 0
         simp only [List.getElem?_cons_zero,List.getElem?_cons_succ,hst,Option.map_none] at hd1 hd3
         have HZ:=((H1.pick 1).setCell (off:=0) (.slice a' (m.aq.length+1) c'))
         simp only [List.set_cons_zero] at HZ
         have HA:=fun o=>HZ.alloc o)
      | (go_at_call 148; refine (c148 (HA _)).mono ?_; rintro e w2 ⟨js,mb,rfl,H2⟩
         have he3:=(H2.pick 3).cells.1 3
         have hg3:=(H2.pick 3).cells.2 3
         simp only [List.getElem?_cons_zero,List.getElem?_cons_succ,hst,Option.map_none] at he3
         have HY:=((H2.pick 3).setCell (off:=3) (bp js))
         simp only [List.set_cons_zero,List.set_cons_succ] at HY
         have HY2:=(((((HY.pick 2).pick 2).nilStars).pick 2).pick 2)
         have eS:StoP { m with st:=some (js,mb,w1.heap.size) } = stars [pts js 453 (jsC mb w1.heap.size 0),Mp mb [],stars []]:=by unfold StoP; simp [hz.1,hz.2]
         have HY3:=St.joins (l:=[pts js 453 (jsC mb w1.heap.size 0),Mp mb [],stars []]) HY2
         rw [← eS] at HY3
         have HW:=Lib.hid (((((HY3.pick 5).pick 1).pick 10).pick 10).pick 10))
      | (go_at_call 149; refine (c149_dfa (m := { m with st:=some (js,mb,w1.heap.size) }) Hh.out Hcx.out (by simp [hX]) (Hm1 _) rfl hro hs hl2 hfind HW.out).mono ?_
         rintro e w3 ⟨rfl,bks,hbo,H4⟩))
    go_ret2
    refine ⟨⟨_,rfl⟩,a',c',(js,mb,w1.heap.size),bks,hbo,?_⟩
    rw [DfaL_keep (m:=m) (m' := { m with st:=some (js,mb,w1.heap.size) }) rfl rfl]
    exact ((((H4.pick 3).drop.pick 4).drop.pick 3).pick 3)
  | some t =>
    obtain ⟨js,mb,cm⟩:=t
    go_enter Tryz.func108,Tryz.ntmps108
    go_wp2_with (first
      | (at_builtin; go_must (refine wpList_append1_st rfl _ _ rfl sl155 (news:=[bp s.sb]) ((H.pick 1).alloc (ob 157 [bp s.sb])) rfl 1 rfl (by simp) rfl (by simp [Value.oneCell']) hb1 hb2 ?_); intro a' c' w1 H1
         have hd1:=(H1.pick 1).cells.1 0
         have hd3:=(H1.pick 1).cells.1 3
         have hf0:=(H1.pick 1).cells.2 0
         simp only [List.getElem?_cons_zero,List.getElem?_cons_succ,hst,Option.map_some] at hd1 hd3
         have HZ:=((H1.pick 1).setCell (off:=0) (.slice a' (m.aq.length+1) c'))
         simp only [List.set_cons_zero] at HZ
         have HW:=Lib.hid (((((HZ.pick 3).pick 3).pick 8).pick 8).pick 8))
      | (go_at_call 149; refine (c149_dfa (m:=m) Hh.out Hcx.out (by simp [hX]) Hm.out hst hro hs hl2 hfind HW.out).mono ?_
         rintro e w3 ⟨rfl,bks,hbo,H4⟩))
    go_ret2
    refine ⟨⟨_,rfl⟩,a',c',(js,mb,cm),bks,hbo,?_⟩
    rw [DfaL_keep (m':=m) hst rfl]
    have H5:=(H4.pick 3).pick 3
    rw [hst] at H5
    exact H5
end Go.Proofs.YtbcngfgemjdllaaGreatDoor
end
section
namespace Go.Proofs.YtbcngfgemjdllaaGreatDoor
open Go.RowKit Go.Own
variable {N A:Nat} {s:SM} {m:DM} {D:Lx.DS} {stop:Nat→Bool} {kindOf:Nat→Int}
structure SOk (N A:Nat) (s:SM):Prop where
  ne:s.L≠[]
  L:∀ x ∈ s.L,x.1<N∧x.2<A
  A:∀ x ∈ s.A,x.1<N∧x.2<A
  lL:s.L.length<1099511627776
  lA:s.A.length<1099511627776
theorem DMb.ask (h:DMb N A m D) (v:Value):DMb N A (m.ask s v) D := { h with }
theorem EdIs.grow {m':DM} {v:Value} {o:Option (Option Nat)} (h:EdIs m v o) (hm:∀ (k:Nat) (x:SM),m.ms[k]? = some x→∃ y,m'.ms[k]? = some y∧y.sb=x.sb) (he:∀ e ∈ m.er,e ∈ m'.er):EdIs m' v o:=by
  match o,h with
  | none,h=>exact h
  | some none,⟨e,h1,h2⟩=>exact ⟨e,he e h1,h2⟩
  | some (some k),⟨x,h1,h2⟩ =>
    obtain ⟨y,h3,h4⟩:=hm k x h1
    exact ⟨y,h3,by rw [h4]; exact h2⟩
theorem DMok.found {k:Nat} (hm:DMok N A stop kindOf m D) (hf:D.find hS s.L=some k) (ho:SOk N A s) (v:Value) :
    DMok N A stop kindOf { m.ask s v with xs:=m.xs++[s] } (D.addS hS ⟨s.L,s.A⟩).1∧(D.addS hS ⟨s.L,s.A⟩).2=k:=by
  unfold Lx.DS.addS
  simp only [hf,and_true]
  refine { hm with asked := ?_,askm := ?_,okL := ?_ }
  · intro t ht
    rcases ht with ht | ht
    · exact hm.okL t (.inl ht)
    · rcases List.mem_append.1 ht with ht | ht
      · exact hm.okL t (.inr ht)
      · simp at ht; subst ht; exact ⟨ho.ne,ho.L,ho.A,ho.lL,ho.lA⟩
  · simp [DM.ask,hm.asked]
  · intro q hq
    simp only [DM.ask,List.mem_append,List.mem_singleton] at hq
    rcases hq with hq | rfl
    · obtain ⟨t,h1,h2⟩:=hm.askm q hq
      refine ⟨t,?_,h2⟩
      rcases h1 with h1 | h1
      · exact .inl h1
      · exact .inr (by simp [h1])
    · exact ⟨s,.inr (by simp),rfl,rfl,rfl⟩
theorem DMok.kept (hm:DMok N A stop kindOf m D) (hf:D.find hS s.L=none) (ho:SOk N A s) (hro:s.ro=true) (hnum:s.num=m.ms.length) (heb:s.eb=none)
    (hacc:s.acc=(Lx.accd stop s.L).isSome∧∀ x,Lx.accd stop s.L=some x→s.pred=kindOf x.1) {bks:List BK} (hb:BksOk (m.ms++[s]) bks) (v1 v2:Value) (st:Nat × Nat × Nat) :
    DMok N A stop kindOf ((m.ask s v1).keep s v2 st bks) (D.addS hS ⟨s.L,s.A⟩).1∧((m.ask s v1).keep s v2 st bks).ms[(D.addS hS ⟨s.L,s.A⟩).2]? = some s:=by
  unfold Lx.DS.addS
  simp only [hf]
  have hlen:D.sts.length=m.ms.length:=by rw [hm.sts,List.length_map]
  have hms:∀ (k:Nat) (x:SM),(m.ms++[s])[k]? = some x→m.ms[k]? = some x∨(k=m.ms.length∧x=s):=by
    intro k x hk
    rcases Nat.lt_or_ge k m.ms.length with hlt | hge
    · rw [List.getElem?_append_left hlt] at hk; exact .inl hk
    · rw [List.getElem?_append_right hge] at hk
      have hz:k - m.ms.length=0:=by
        have:=(List.getElem?_eq_some_iff.1 hk).1
        simp at this
        exact this
      rw [hz] at hk
      simp at hk
      exact .inr ⟨by omega,hk.symm⟩
  refine ⟨⟨⟨?_,hb.bk,hb.bkh,hb.bkn,?_,?_⟩,?_,?_,?_,?_,?_,?_,?_⟩,?_⟩
  · simp [DM.keep,DM.ask,hm.sts]
  · intro e; simp [DM.keep] at e
  · intro t ht
    simp only [DM.keep,DM.ask,List.mem_append,List.mem_singleton] at ht
    rcases ht with (ht | rfl) | ht
    · exact hm.okL t (.inl ht)
    · exact ⟨ho.ne,ho.L,ho.A,ho.lL,ho.lA⟩
    · exact hm.okL t (.inr ht)
  · simp [DM.keep,DM.ask,hm.asked]
  · intro q hq
    simp only [DM.keep,DM.ask,List.mem_append,List.mem_singleton] at hq
    rcases hq with (hq | rfl) | rfl
    · obtain ⟨t,h1,h2⟩:=hm.askm q hq
      refine ⟨t,?_,h2⟩
      rcases h1 with h1 | h1
      · exact .inl (List.mem_append_left _ h1)
      · exact .inr h1
    · exact ⟨s,.inl (by simp [DM.keep]),rfl,rfl,rfl⟩
    · exact ⟨s,.inl (by simp [DM.keep]),rfl,rfl,rfl⟩
  · intro k x hk
    rcases hms k x hk with hk | ⟨rfl,rfl⟩
    · exact hm.num k x hk
    · exact ⟨hnum,hro⟩
  · have h0:=hm.s0
    simp only [DM.keep,DM.ask]
    cases hd:D.s0 with
    | none=>rw [hd] at h0; exact h0
    | some k =>
      rw [hd] at h0
      obtain ⟨x,h1,h2⟩:=h0
      exact ⟨x,by rw [List.getElem?_append_left (List.getElem?_eq_some_iff.1 h1).1]; exact h1,h2⟩
  · intro k c hk
    simp only [DM.keep,DM.ask,List.length_append] at hk
    exact hm.edk k c (by omega)
  · intro x hx
    simp only [DM.keep,DM.ask,List.mem_append,List.mem_singleton] at hx
    rcases hx with hx | rfl
    · exact hm.acc x hx
    · exact hacc
  · intro k x hk
    rcases hms k x hk with hk | ⟨rfl,rfl⟩
    · obtain ⟨h1,h2⟩:=hm.ed k x hk
      refine ⟨h1,fun he=>⟨(h2 he).1,fun c v hv=>EdIs.grow ((h2 he).2 c v hv) (fun j y hy=>⟨y,?_,rfl⟩) fun _ h=>h⟩⟩
      simp only [DM.keep,DM.ask]
      rw [List.getElem?_append_left (List.getElem?_eq_some_iff.1 hy).1]
      exact hy
    · exact ⟨fun _ c=>hm.edk _ c (Nat.le_refl _),fun ⟨e,he⟩=>by rw [heb] at he; cases he⟩
  · simp only [DM.keep,DM.ask,hlen]
    rw [List.getElem?_append_right (Nat.le_refl _)]
    simp
theorem DMok.start {k:Nat} {x:SM} (hm:DMok N A stop kindOf m D) (hk:m.ms[k]? = some x):DMok N A stop kindOf { m with s0:=some x.sb } { D with s0:=some k } :=
  { hm with s0:=⟨x,hk,rfl⟩ }
end Go.Proofs.YtbcngfgemjdllaaGreatDoor
end
section
namespace Go.Proofs.YtbcngfgemjdllaaGreatDoor
open Go.RowKit Go.Own
variable {kd bk xf pf:Nat→Nat} {out:Nat→List Lx.Tr} {B N A:Nat} {w0 w:World} {r:List HP} {X:HP}
def dsC (n:Int) (b:Nat) (acc:Bool) (pred:Int):List Value:=[.int .i64 n,bp b,.slice none 0 0,.bool acc,.int .i64 pred,.pointer none,.bool false,.slice none 0 0]
set_option maxRecDepth 100000 in
theorem c54 {n:Int} {b:Nat} (H:St B w0 r w):Calls Tryz.prog 54 #[.int .i64 n,bp b] w fun e w'=>∃ sb,e=.returned (bp sb)∧St B w0 (pts sb 178 (dsC n b false 0)::r) w':=by
  have H1:=H.alloc (ob 178 (dsC n b false 0))
  go_enter Tryz.func54,Tryz.ntmps54
  go_wp2_with fail
  go_ret
  exact ⟨_,rfl,H1⟩
theorem c105 {sb:Nat} {v x:Value} (hc:w.cell? ⟨sb,4,none⟩=some x) (hf:w.frozen? ⟨sb,4,none⟩=false) {n:Int} (hv:v=.int .i64 n):Calls Tryz.prog 105 #[bp sb,v] w fun e w'=>e=.returned (.tuple #[])∧w'=w.setCell ⟨sb,4,none⟩ v:=by
  subst hv
  go_enter Tryz.func105,Tryz.ntmps105
  go_wp2_with fail
  go_end0
  exact ⟨rfl,rfl⟩
theorem c109 {d:Nat} {b:Nat} {x:Value} (hc:w.cell? ⟨d,5,none⟩=some x) (hf:w.frozen? ⟨d,5,none⟩=false):Calls Tryz.prog 109 #[bp d,bp b] w fun e w'=>e=.returned (.tuple #[])∧w'=w.setCell ⟨d,5,none⟩ (bp b):=by
  go_enter Tryz.func109,Tryz.ntmps109
  go_wp2_with fail
  go_end0
  exact ⟨rfl,rfl⟩
structure NetR (kd bk:Nat→Nat) (out:Nat→List Lx.Tr) (ru:Nat→Nat) (kindOf:Nat→Int) (B:Nat) (w0:World) (N at_ nr:Nat):Prop extends NetT kd bk out B w0 N where
  ruc:∀ n,n<N→w0.cell? ⟨bk n,3,none⟩=some (.int .i64 (ru n))
  atlt:at_<B
  kinds:∃ g c,g<B∧w0.cell? ⟨at_,8,none⟩=some (.slice (some ⟨g,0,none⟩) nr c)∧∀ n,n<N→kd n=7→ru n<nr∧w0.cell? ⟨g,ru n,none⟩=some (.int .i64 (kindOf n))
  mode:∃ g n c,g<B∧0<n∧w0.cell? ⟨at_,5,none⟩=some (.slice (some ⟨g,0,none⟩) n c)∧w0.cell? ⟨g,0,none⟩=some (bp (bk 0))
  zero:0<N∧kd 0=6
  nlt:N<1099511627776
structure Sim where
  at_:Nat
  cache:Value
  ds:Nat
  nd:Nat
  cd:Nat
  recog:Value
  si:Int
  ln:Int
  col:Int
  pa:Nat
  mc:Int
def Sim.cells (σ : Sim):List Value:=[bp σ.at_,σ.cache,.slice (some ⟨σ.ds,0,none⟩) σ.nd σ.cd,σ.recog,.int .i64 0,.pointer none,.int .i64 σ.si,.int .i64 σ.ln,.int .i64 σ.col,.int .i64 0,bp σ.pa,.int .i64 σ.mc]
def SimP (l:Nat) (σ : Sim) (dps:List Value):HP:=star (pts l 186 σ.cells) (pts σ.ds 117 dps)
theorem SetH.close {b jb mb cmb:Nat} {S:Lx.CS} (H:SetH kd bk xf pf B w0 b jb mb cmb S r w):St B w0 (SetP kd bk xf pf b S.cf S.ask false (-1)::r) w:=by
  obtain ⟨av,cv,ms,hk,H⟩:=H.ex
  refine SetP.cls (jp:=bp jb) (av:=av) (cv:=cv) (ms:=ms) hk ?_
  have H1:St B w0 ([pts b 221 (setL av cv (-1) jb false),Osl av 227 9 S.ask.length (S.ask.flatMap (cfN kd bk xf pf)),Osl cv 222 1 ms.length (ms.map cbP),pts jb 262 _,Mp mb _,stars (ms.map (CfP kd bk xf pf))]++r) w:=H
  have H2:=((H1.pick 4).drop.pick 3)
  exact ((((H1.pick 4).drop.pick 3).drop).perm (List.Perm.refl _))
end Go.Proofs.YtbcngfgemjdllaaGreatDoor
end
section
namespace Go.Proofs.YtbcngfgemjdllaaGreatDoor
open Go.RowKit Go.Own
variable {kd bk xf pf ru:Nat→Nat} {B N A:Nat} {w0 w:World} {r:List HP} {X:HP} {m:DM} {D:Lx.DS} {s:SM} {d:Nat} {ats:Value} {dec:Int} {P Q:HP}
theorem DfaL.c5 (H:St B w0 (DfaL kd bk xf pf d ats dec m++r) w):w.cell? ⟨d,5,none⟩=some (.pointer (m.s0.map fun b=>⟨b,0,none⟩))∧w.frozen? ⟨d,5,none⟩=false:=by
  unfold DfaL dfaC at H
  exact ⟨H.cells.1 5,H.cells.2 5⟩
theorem DfaL.setS0 (H:St B w0 (DfaL kd bk xf pf d ats dec m++r) w) (b:Nat):St B w0 (DfaL kd bk xf pf d ats dec { m with s0:=some b } ++ r) (w.setCell ⟨d,5,none⟩ (bp b)):=by
  unfold DfaL dfaC at H ⊢
  have:=St.setCell (off:=5) H (bp b)
  exact this
theorem DfaL.back1 (H:St B w0 (P::(DfaL kd bk xf pf d ats dec m++r)) w):St B w0 (DfaL kd bk xf pf d ats dec m++(P::r)) w:=H.perm List.perm_middle.symm
theorem DfaL.front1 (H:St B w0 (DfaL kd bk xf pf d ats dec m++(P::r)) w):St B w0 (P::(DfaL kd bk xf pf d ats dec m++r)) w:=H.perm List.perm_middle
theorem DfaL.addX (H:St B w0 (DfaL kd bk xf pf d ats dec m++(SP kd bk xf pf s::r)) w):St B w0 (DfaL kd bk xf pf d ats dec { m with xs:=m.xs++[s] } ++ r) w:=by
  have H1:=DfaL.front1 H
  unfold DfaL at H1
  simp only [List.cons_append,List.nil_append] at H1
  have H2:=((H1.pick 5).pick 1).pushMap
  unfold DfaL
  simp only [List.cons_append,List.nil_append]
  exact (((H2.pick 4).pick 4).pick 4).pick 4
theorem heap_ne {b b' o:Nat} {v:Value} (h:b≠b'):(w.setCell ⟨b',o,none⟩ v).heap[b]? = w.heap[b]? := by
  simp only [World.setCell,Array.getElem?_modify]
  rw [if_neg fun e=>h e.symm]
theorem cell_ne {b b' o o':Nat} {v:Value} (h:b≠b'):(w.setCell ⟨b',o',none⟩ v).cell? ⟨b,o,none⟩=w.cell? ⟨b,o,none⟩:=by
  simp only [World.cell?,heap_ne h]
def SM.kept (s:SM) (n:Nat):SM := { s with ro:=true,num:=n }
theorem prep_keep {n:Nat} (hro:s.ro=false) (heb:s.eb=none) (H:St B w0 (DfaL kd bk xf pf d ats dec m++(SP kd bk xf pf s::r)) w) :
    (∃ x,w.cell? ⟨s.sb,0,none⟩=some x)∧w.frozen? ⟨s.sb,0,none⟩=false ∧
    (∃ x,(w.setCell ⟨s.sb,0,none⟩ (.int .i64 n)).cell? ⟨s.b,8,none⟩=some x)∧(w.setCell ⟨s.sb,0,none⟩ (.int .i64 n)).frozen? ⟨s.b,8,none⟩=false ∧
    (∃ x,((w.setCell ⟨s.sb,0,none⟩ (.int .i64 n)).setCell ⟨s.b,8,none⟩ (.bool true)).cell? ⟨s.b,2,none⟩=some x)∧((w.setCell ⟨s.sb,0,none⟩ (.int .i64 n)).setCell ⟨s.b,8,none⟩ (.bool true)).frozen? ⟨s.b,2,none⟩=false ∧
    (∃ x,(((w.setCell ⟨s.sb,0,none⟩ (.int .i64 n)).setCell ⟨s.b,8,none⟩ (.bool true)).setCell ⟨s.b,2,none⟩ (.pointer none)).cell? ⟨s.sb,1,none⟩=some x)∧(((w.setCell ⟨s.sb,0,none⟩ (.int .i64 n)).setCell ⟨s.b,8,none⟩ (.bool true)).setCell ⟨s.b,2,none⟩ (.pointer none)).frozen? ⟨s.sb,1,none⟩=false ∧
    St B w0 (DfaL kd bk xf pf d ats dec m++(SetP kd bk xf pf s.b s.L s.A true (-1)::pts s.sb 178 (s.kept n).cells::EdP (s.kept n)::r)) ((((w.setCell ⟨s.sb,0,none⟩ (.int .i64 n)).setCell ⟨s.b,8,none⟩ (.bool true)).setCell ⟨s.b,2,none⟩ (.pointer none)).setCell ⟨s.sb,1,none⟩ (bp s.b)):=by
  have H1:=SP.parts (DfaL.front1 H)
  rw [hro] at H1
  obtain ⟨av,cv,jp,ms,hk,H2⟩:=SetP.opn H1
  unfold SetW at H2
  simp only [List.cons_append,List.nil_append] at H2
  have H3:=H2.pick 4
  have H4:=H3.setCell (off:=0) (.int .i64 n)
  have H5:=(H4.pick 1).setCell (off:=8) (.bool true)
  have H6:=H5.setCell (off:=2) (.pointer none)
  have H7:=(H6.pick 1).setCell (off:=1) (bp s.b)
  refine ⟨⟨_,H3.cells.1 0⟩,H3.cells.2 0,⟨_,(H4.pick 1).cells.1 8⟩,(H4.pick 1).cells.2 8,⟨_,H5.cells.1 2⟩,H5.cells.2 2,⟨_,(H6.pick 1).cells.1 1⟩,(H6.pick 1).cells.2 1,?_⟩
  have H8:St B w0 (SetW kd bk xf pf s.b s.L s.A true (-1) av cv (.pointer none) ms++(pts s.sb 178 (s.kept n).cells::EdP (s.kept n)::(DfaL kd bk xf pf d ats dec m++r))) _:=(((H7.pick 4).pick 4).pick 4).pick 4
  have H9:=SetP.cls hk H8
  refine H9.perm ?_
  exact ((List.Perm.cons _ (List.Perm.cons _ List.perm_middle.symm)).trans (List.Perm.cons _ List.perm_middle.symm)).trans List.perm_middle.symm
end Go.Proofs.YtbcngfgemjdllaaGreatDoor
end
