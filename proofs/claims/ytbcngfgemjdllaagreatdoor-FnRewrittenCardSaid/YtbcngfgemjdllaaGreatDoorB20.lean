/- Part 20: D21, D22, D23, D24, D25, D26. -/
import Derived.Test.YtbcngfgemjdllaaGreatDoorB07
set_option linter.unusedVariables false
set_option linter.unusedSimpArgs false
section
namespace Go.Proofs.YtbcngfgemjdllaaGreatDoor
open Go.RowKit Go.Own
variable {kd bk xf pf:Nat→Nat} {B N A:Nat} {w0 w:World} {r:List HP} {X:HP}
theorem sl155:SlT Tryz.prog 155 157 1 8 (.pointer none):=⟨by kernel_rfl,sl_inf (by kernel_rfl),by kernel_rfl,by decide⟩
theorem mt449:MapT Tryz.prog 449 3 155 (.slice none 0 0):=⟨by kernel_rfl,by kernel_rfl,mp_zero (by kernel_rfl)⟩
abbrev bp (b:Nat):Value:=.pointer (some ⟨b,0,none⟩)
def GetRel (w:World) (n:Nat) (es:Nat→Bool) (i:Value) (wr:World):Prop:=∃ k m:Nat,k≤n∧i=.int .i64 k∧wr=w.drewN m∧∀ j,j<k→es j=false
structure Bkt (w:World) (sb cm:Nat) (a:Option Addr) (ps:List Nat) (es:Nat→Bool):Prop where
  row:ps≠[]→∃ g,a=some ⟨g,0,none⟩∧∀ (i p:Nat),ps[i]? = some p→w.cell? ⟨g,i,none⟩=some (bp p)
  eq:∀ (i p:Nat),ps[i]? = some p→∀ m,Calls Tryz.prog 330 #[bp cm,bp sb,bp p] (w.drewN m) fun e w'=>e=.returned (.bool (es i))∧∃ n,w'=(w.drewN m).drewN n
theorem Bkt.drewN {sb cm:Nat} {a:Option Addr} {ps:List Nat} {es:Nat→Bool} (h:Bkt w sb cm a ps es) (n:Nat):Bkt (w.drewN n) sb cm a ps es :=
  ⟨h.row,fun i p hi m=>by rw [World.drewN_drewN]; exact h.eq i p hi _⟩
set_option maxRecDepth 100000 in
set_option maxHeartbeats 1000000 in
theorem c146 {js mb cm sb c:Nat} {h:Int} {a:Option Addr} {ps:List Nat} {es:Nat→Bool} (hj0:w.cell? ⟨js,0,none⟩=some (.map (some mb))) (hj2:w.cell? ⟨js,2,none⟩=some (.iface 355 (bp cm)))
    (h331:Calls Tryz.prog 331 #[bp cm,bp sb] w fun e w'=>e=.returned (.int .i64 h)∧w=w') (hL:(Instr.lookup 449 (.map (some mb)) (.int .i64 h) false).run Tryz.prog w=.ok (.slice a ps.length c) w)
    (hb:Bkt w sb cm a ps es) (hl:ps.length<4611686018427387904) :
    Calls Tryz.prog 146 #[bp js,bp sb] w fun e w'=>(∃ n,w'=w.drewN n)∧((∃ i p,ps[i]? = some p∧es i=true∧(∀ j,j<i→es j=false)∧e=.returned (.tuple #[bp p,.bool true]))∨((∀ j,j<ps.length→es j=false)∧e=.returned (.tuple #[bp sb,.bool false]))):=by
  have HB:=Lib.hid hb
  clear hb
  go_enter Tryz.func146,Tryz.ntmps146
  go_wp2_with (first
    | (go_at_call 331; refine h331.mono ?_; rintro e w' ⟨rfl,rfl⟩))
  go_loopw [22] (GetRel w ps.length es) (fun i _=>ps.length - (intOf i).toNat)
  case atStart=>exact ⟨0,0,Nat.zero_le _,rfl,rfl,fun j hj=>absurd hj (Nat.not_lt_zero _)⟩
  case round =>
    obtain ⟨k,m,hk,rfl,rfl,hes⟩:=hrel
    have Hes:=Lib.hid hes
    clear hes
    by_cases hlt:k<ps.length
    · obtain ⟨g,rfl,hrow⟩:=HB.out.row (by intro e; rw [e] at hlt; simp at hlt)
      have hgk:=hrow k _ (List.getElem?_eq_getElem hlt)
      have h330:=HB.out.eq k _ (List.getElem?_eq_getElem hlt)
      have hk0:(0:Int)≤(k:Int):=Int.natCast_nonneg _
      have hk1:(k:Int)<(ps.length:Int):=by omega
      have H330:=Lib.hid h330
      clear hrow h330
      cases hek:es k
      all_goals
        rw [hek] at H330
        go_wp2_with (first
          | (go_at_call 330; refine (H330.out _).mono ?_; rintro e w' ⟨rfl,n,rfl⟩))
      · rw [show ((k:Int)+1)=((k+1:Nat):Int) from by omega]
        refine ⟨⟨k+1,m+n,hlt,rfl,by first | rfl | rw [World.drewN_drewN],fun j hj => ?_⟩,meas_lt hlt⟩
        by_cases e:j=k
        · subst e; exact hek
        · exact Hes.out j (by omega)
      · go_ret2
        exact ⟨⟨m+n,by first | rfl | rw [World.drewN_drewN]⟩,.inl ⟨k,_,List.getElem?_eq_getElem hlt,hek,Hes.out,rfl⟩⟩
    · have hk1 : ¬ (k:Int)<(ps.length:Int):=by omega
      go_wp2_with fail
      go_ret2
      exact ⟨⟨m,rfl⟩,.inr ⟨fun j hj=>Hes.out j (by omega),rfl⟩⟩
end Go.Proofs.YtbcngfgemjdllaaGreatDoor
end
section
namespace Go.Proofs.YtbcngfgemjdllaaGreatDoor
open Go.RowKit Go.Own
variable {kd bk xf pf:Nat→Nat} {B N A:Nat} {w0 w wp:World} {r:List HP} {X:HP}
set_option maxRecDepth 100000 in
set_option maxHeartbeats 1000000 in
theorem c149 {js mb cm sb c:Nat} {h len:Int} {a:Option Addr} {ps:List Nat} {D:List (Int × Value)} (hj2p:wp.cell? ⟨js,2,none⟩=some (.iface 355 (bp cm)))
    (h331:Calls Tryz.prog 331 #[bp cm,bp sb] wp fun e w'=>e=.returned (.int .i64 h)∧w'=w) (hm:(mfind h D).getD (.slice none 0 0)=.slice a ps.length c)
    (hb:Bkt w sb cm a ps (fun _=>false)) (hl:ps.length<1099511627776) (hln:0≤len) (hln2:len<1099511627776)
    (H:St B w0 (pts js 453 [.map (some mb),.int .i64 len,.iface 355 (bp cm)]::Mp mb D::Osl (.slice a ps.length c) 157 1 ps.length (ps.map bp)::r) w) :
    Calls Tryz.prog 149 #[bp js,bp sb] wp fun e w'=>e=.returned (.tuple #[bp sb,.bool false])∧∃ a' c',
      St B w0 (pts js 453 [.map (some mb),.int .i64 (len+1),.iface 355 (bp cm)]::Mp mb (mset h (.slice a' (ps.length+1) c') D)::Osl (.slice a' (ps.length+1) c') 157 1 (ps.length+1) (ps.map bp++[bp sb])::r) w':=by
  have hj0:w.cell? ⟨js,0,none⟩=some (.map (some mb)):=H.cells.1 0
  have hj2:w.cell? ⟨js,2,none⟩=some (.iface 355 (bp cm)):=H.cells.1 2
  have hj1:w.cell? ⟨js,1,none⟩=some (.int .i64 len):=H.cells.1 1
  have hf1:=H.cells.2 1
  have hL0:=run_lookup_st mt449 (H.pick 1) h
  rw [hm] at hL0
  have HB:=Lib.hid hb
  have HH:=Lib.hid H
  clear hb H
  go_enter Tryz.func149,Tryz.ntmps149
  go_wp2_with (first
    | (go_at_call 331; refine h331.mono ?_; rintro e w' ⟨rfl,rfl⟩))
  go_loopw [22] (GetRel w' ps.length (fun _=>false)) (fun i _=>ps.length - (intOf i).toNat)
  case atStart=>exact ⟨0,0,Nat.zero_le _,rfl,rfl,fun _ _=>rfl⟩
  case round =>
    obtain ⟨k,m,hk,rfl,rfl,_⟩:=hrel
    by_cases hlt:k<ps.length
    · obtain ⟨g,rfl,hrow⟩:=HB.out.row (by intro e; rw [e] at hlt; simp at hlt)
      have hgk:=hrow k _ (List.getElem?_eq_getElem hlt)
      have h330:=HB.out.eq k _ (List.getElem?_eq_getElem hlt)
      have hk0:(0:Int)≤(k:Int):=Int.natCast_nonneg _
      have hk1:(k:Int)<(ps.length:Int):=by omega
      have H330:=Lib.hid h330
      clear hrow h330
      go_wp2_with (first
        | (go_at_call 330; refine (H330.out _).mono ?_; rintro e w' ⟨rfl,n,rfl⟩))
      rw [show ((k:Int)+1)=((k+1:Nat):Int) from by omega]
      exact ⟨⟨k+1,m+n,hlt,rfl,by first | rfl | rw [World.drewN_drewN],fun _ _=>rfl⟩,meas_lt hlt⟩
    · have hk1 : ¬ (k:Int)<(ps.length:Int):=by omega
      have H:=HH.out.drewN m
      have hj0:(w'.drewN m).cell? ⟨js,0,none⟩=some (.map (some mb)):=hj0
      have hj1:(w'.drewN m).cell? ⟨js,1,none⟩=some (.int .i64 len):=hj1
      have hf1:(w'.drewN m).frozen? ⟨js,1,none⟩=false:=hf1
      generalize w'.drewN m=w at H hj0 hj1 hf1 ⊢
      have hL:=run_lookup_st mt449 (H.pick 1) h
      have HA:∀ o,St B w0 (pto w.heap.size o::Osl (.slice a ps.length c) 157 1 ps.length (ps.map bp)::pts js 453 [.map (some mb),.int .i64 len,.iface 355 (bp cm)]::Mp mb D::r) (w.drew.alloc o):=fun o=>((H.pick 2).drew).alloc o
      have hL1:=fun o=>run_lookup_st mt449 ((HA o).pick 3) h
      have hL2:=run_lookup_st mt449 (H.drew.pick 1) h
      have hL3:=fun o=>run_lookup_st mt449 ((H.alloc o).drew.pick 2) h
      simp only [hm] at hL3 hL1
      rw [hm] at hL hL2
      have hb1:ps.length+1≤maxLen:=by unfold maxLen; omega
      have hb2:(ps.length+1) * 8≤140737488355328:=by omega
      have e1:=World.new_ne w _ hj0
      go_wp2_with fail
      go_region_held3 (fun w'=>w'.cell? ⟨js,0,none⟩=some (.map (some mb)))
        (first
          | go_keep
          | exact (H2.pick 2).cells.1 0
          | exact (H1.pick 1).cells.1 0)
        (first
          | (refine step_append1_st rfl _ _ rfl sl155 (g:=w.heap.size) (news:=[bp sb]) (HA _) rfl 1 rfl rfl rfl (by simp [Value.oneCell']) hb1 hb2 ?_; intro a' c' w1 H1; obtain ⟨w2,hu,H2,hw2⟩:=run_mapUpdate_st mt449 (H1.pick 2) h (.slice a' (ps.length+1) c')))
      all_goals
        obtain ⟨hk,hfk⟩:=(H2.pick 2).cells
        have hk1:=hk 1
        have hfk1:=hfk 1
        simp only [List.getElem?_cons_zero,List.getElem?_cons_succ] at hk1
        clear hk hfk
        go_wp2_with fail
        go_ret2
      all_goals
        refine ⟨rfl,a',c',?_⟩
        have HZ:=((H2.pick 2).setCell (off:=1) (.int .i64 (len+1))).perm (List.Perm.cons _ (List.Perm.refl _))
        simp only [List.set_cons_succ,List.set_cons_zero] at HZ
        have hw1:IntKind.i64.wrap (len+1)=len+1:=IntWalk.i64_in _ (by omega)
        first | exact HZ | (rw [hw1]; exact HZ)
end Go.Proofs.YtbcngfgemjdllaaGreatDoor
end
section
namespace Go.Proofs.YtbcngfgemjdllaaGreatDoor
open Go.RowKit Go.Own
variable {kd bk xf pf:Nat→Nat} {B N A:Nat} {w0 w:World} {r:List HP} {X:HP} {s s':SM}
theorem SetF.drewN {b:Nat} {L Aq:List Lx.Cf} {ro:Bool} {ch:Int} (h:SetF kd bk xf pf w b L Aq ro ch) (n:Nat):SetF kd bk xf pf (w.drewN n) b L Aq ro ch:=by
  obtain ⟨av,jp,sa,cap,cbs,h1,h2⟩:=h.ex
  exact ⟨av,jp,sa,cap,cbs,h1.drewN n,h2⟩
theorem SMW.drewN (h:SMW kd bk xf pf w s) (n:Nat):SMW kd bk xf pf (w.drewN n) s:=⟨h.hb,h.set.drewN n⟩
theorem SetP.opn {b:Nat} {L Aq:List Lx.Cf} {ro:Bool} {ch:Int} (H:St B w0 (SetP kd bk xf pf b L Aq ro ch::r) w):∃ av cv jp ms,ms.map CfM.key=L∧St B w0 (SetW kd bk xf pf b L Aq ro ch av cv jp ms++r) w:=by
  obtain ⟨q,H1⟩:=H.ex
  obtain ⟨hk,H2⟩:=H1.pure
  exact ⟨_,_,_,_,hk,H2.splits⟩
theorem SetP.cls {b:Nat} {L Aq:List Lx.Cf} {ro:Bool} {ch:Int} {av cv jp:Value} {ms:List CfM} (hk:ms.map CfM.key=L) (H:St B w0 (SetW kd bk xf pf b L Aq ro ch av cv jp ms++r) w):St B w0 (SetP kd bk xf pf b L Aq ro ch::r) w :=
  H.joins.imp fun h hh=>⟨(av,cv,jp,ms),hk,hh⟩
theorem SetP.setF {b:Nat} {L Aq:List Lx.Cf} {ro:Bool} {ch:Int} (h:NetB kd bk B w0 N) (hcx:CtxX xf pf B w0 X A) (hX:X ∈ r) (hL:∀ x ∈ L,x.1<N∧x.2<A) (H:St B w0 (SetP kd bk xf pf b L Aq ro ch::r) w):SetF kd bk xf pf w b L Aq ro ch:=by
  obtain ⟨av,cv,jp,ms,hk,H1⟩:=SetP.opn H
  obtain ⟨sa,cap,rfl,hF⟩:=SetW.fsw h hcx hX hL hk H1
  exact ⟨av,jp,sa,cap,_,hF,H1.heap.2⟩
theorem SP.parts (H:St B w0 (SP kd bk xf pf s::r) w):St B w0 (SetP kd bk xf pf s.b s.L s.A s.ro (kHash s.L s.ro)::pts s.sb 178 s.cells::EdP s::r) w:=((H.split).pick 1).split.perm (by
  exact (List.Perm.cons _ (List.Perm.swap _ _ _)).trans (List.Perm.swap _ _ _))
theorem SP.whole (H:St B w0 (SetP kd bk xf pf s.b s.L s.A s.ro (kHash s.L s.ro)::pts s.sb 178 s.cells::EdP s::r) w):St B w0 (SP kd bk xf pf s::r) w:=by
  have H1:St B w0 (pts s.sb 178 s.cells::EdP s::SetP kd bk xf pf s.b s.L s.A s.ro (kHash s.L s.ro)::r) w:=H.perm ((List.Perm.swap _ _ _).trans (List.Perm.cons _ (List.Perm.swap _ _ _)))
  exact (H1.join.pick 1).join
theorem SP.smw (h:NetB kd bk B w0 N) (hcx:CtxX xf pf B w0 X A) (hX:X ∈ r) (hL:∀ x ∈ s.L,x.1<N∧x.2<A) (H:St B w0 (SP kd bk xf pf s::r) w):SMW kd bk xf pf w s:=by
  have H1:=SP.parts H
  exact ⟨(H1.pick 1).heap.2,SetP.setF h hcx (by simp [hX]) hL H1⟩
theorem SP.ne (H:St B w0 (SP kd bk xf pf s::SP kd bk xf pf s'::r) w):s.sb≠s'.sb∧s.b≠s'.b:=by
  have H1:=SP.parts H
  have H2:=SP.parts (H1.pick 3)
  constructor
  · exact (((H2.pick 4).perm (r:=[pts s.sb 178 s.cells,pts s'.sb 178 s'.cells]++_) (by
      exact List.Perm.cons _ (List.Perm.swap _ _ _))).ne)
  · obtain ⟨av,cv,jp,ms,hk,H3⟩:=SetP.opn H2
    have H4:=(H3.pick 6).perm (List.Perm.refl _)
    have H5:=SetP.opn (H4)
    obtain ⟨av',cv',jp',ms',hk',H6⟩:=H5
    exact ((H6.pick 4).ne).symm
theorem SMW.c330 {cm:Nat} (h:SMW kd bk xf pf w s) (h':SMW kd bk xf pf w s') (hne:s.sb≠s'.sb) (hnb:s.b≠s'.b) (hL:s.L≠[]) (hl:s.L.length<4611686018427387904) (m:Nat) :
    Calls Tryz.prog 330 #[bp cm,bp s.sb,bp s'.sb] (w.drewN m) fun e w'=>e=.returned (.bool (decide (s.L.length=s'.L.length)))∧∃ n,w'=(w.drewN m).drewN n:=by
  obtain ⟨av,jp,sa,cap,cbs,hF,hb⟩:=h.set.ex
  obtain ⟨av',jp',sa',cap',cbs',hF',hb'⟩:=h'.set.ex
  obtain ⟨g,rfl,_⟩:=hF.row hL
  refine Go.Proofs.YtbcngfgemjdllaaGreatDoor.c330 (c407 h.hb h'.hb rfl rfl hne fun n => ?_)
  refine c408 hb hb' hnb fun k => ?_
  by_cases e:s.L.length=s'.L.length
  · rw [decide_eq_true e]
    exact c410_eq (((hF.drewN _).drewN _).drewN _) (((hF'.drewN _).drewN _).drewN _) e.symm hl
  · rw [decide_eq_false e]
    exact c410_ne (hF.drewN m).sl (hF'.drewN m).sl (by simpa using fun h=>e (by exact_mod_cast h))
theorem SMW.c68 (h:SMW kd bk xf pf w s) (hl:s.L.length<4611686018427387904):Calls Tryz.prog 68 #[bp s.sb] w fun e w'=>e=.returned (.int .i64 (hS s.L))∧w'=w:=by
  obtain ⟨av,jp,sa,cap,cbs,hF,hb⟩:=h.set.ex
  have h1:w.cell? ⟨s.sb,1,none⟩=some (bp s.b):=(cells_at h.hb).1 1
  have h8:w.cell? ⟨s.b,8,none⟩=some (.bool s.ro):=(cells_at hb).1 8
  have hh:w.cell? ⟨s.b,1,none⟩=some (.int .i64 (kHash s.L s.ro)):=(cells_at hb).1 1
  refine Go.Proofs.YtbcngfgemjdllaaGreatDoor.c68 h1 ?_
  cases hr:s.ro with
  | false=>rw [hr] at h8; exact c96_open hF hl h8
  | true =>
    rw [hr] at h8 hh
    simp only [kHash,if_true] at hh
    by_cases e:hL s.L = -1
    · rw [e] at hh
      refine (c96_set hF hl h8 hh ((cells_at hb).2 1)).mono ?_
      rintro e' w' ⟨rfl,rfl⟩
      refine ⟨rfl,setCell_same hb ?_⟩
      rw [hr]
      simp [setK,kHash]
    · exact c96_kept h8 hh (by simpa using e)
end Go.Proofs.YtbcngfgemjdllaaGreatDoor
end
section
namespace Go.Proofs.YtbcngfgemjdllaaGreatDoor
open Go.RowKit Go.Own
structure BK where
  h:Int
  a:Option Addr
  c:Nat
  ks:List Nat
def BK.v (q:BK):Value:=.slice q.a q.ks.length q.c
def BK.P (q:BK):HP:=Osl q.v 157 1 q.ks.length (q.ks.map bp)
def BK.kv (q:BK):Int × Value:=(q.h,q.v)
structure DM where
  ms:List SM
  xs:List SM
  aq:List (Nat × List Lx.Cf × List Lx.Cf)
  av:Value
  st:Option (Nat × Nat × Nat)
  bks:List BK
  s0:Option Nat
  er:List Nat
def jsC (mb cm n:Nat):List Value:=[.map (some mb),.int .i64 n,.iface 355 (bp cm)]
def StoP (m:DM):HP:=match m.st with
  | none=>top
  | some (js,mb,cm)=>stars [pts js 453 (jsC mb cm m.ms.length),Mp mb (m.bks.map BK.kv),stars (m.bks.map BK.P)]
def dfaC (ats:Value) (dec:Int) (m:DM):List Value:=[m.av,ats,.int .i64 dec,.pointer (m.st.map fun t=>⟨t.1,0,none⟩),.int .i64 0,.pointer (m.s0.map fun b=>⟨b,0,none⟩),.bool false]
def ErP (e:Nat):HP:=fun h=>∃ l:List Value,l[0]? = some (.int .i64 2147483647)∧pts e 178 l h
section
variable (kd bk xf pf:Nat→Nat)
noncomputable def DfaL (d:Nat) (ats:Value) (dec:Int) (m:DM):List HP :=
  [pts d 159 (dfaC ats dec m),Osl m.av 157 1 m.aq.length (m.aq.map fun q=>bp q.1),StoP m,stars (m.ms.map (SP kd bk xf pf)),stars (m.xs.map (SP kd bk xf pf)),stars (m.er.map ErP)]
end
def EdIs (m:DM) (v:Value):Option (Option Nat)→Prop
  | none=>v=.pointer none
  | some none=>∃ e ∈ m.er,v=bp e
  | some (some k)=>∃ s,m.ms[k]? = some s∧v=bp s.sb
structure DMb (N A:Nat) (m:DM) (D:Lx.DS):Prop where
  sts:D.sts=m.ms.map SM.L
  bk:∀ q ∈ m.bks,q.ks=(m.ms.filter fun s=>hS s.L == q.h).map SM.sb
  bkh:∀ s ∈ m.ms,∃ q ∈ m.bks,q.h=hS s.L
  bkn:(m.bks.map BK.h).Nodup
  st:m.st=none→m.ms=[]∧m.bks=[]
  okL:∀ s:SM,(s ∈ m.ms∨s ∈ m.xs)→s.L≠[]∧(∀ x ∈ s.L,x.1<N∧x.2<A)∧(∀ x ∈ s.A,x.1<N∧x.2<A)∧s.L.length<1099511627776∧s.A.length<1099511627776
structure DMok (N A:Nat) (stop:Nat→Bool) (kindOf:Nat→Int) (m:DM) (D:Lx.DS):Prop extends DMb N A m D where
  asked:D.asked=m.aq.map (·.2)
  askm:∀ q ∈ m.aq,∃ s:SM,(s ∈ m.ms∨s ∈ m.xs)∧s.sb=q.1∧s.L=q.2.1∧s.A=q.2.2
  num:∀ (k:Nat) (s:SM),m.ms[k]? = some s→s.num=k∧s.ro=true
  s0:match D.s0 with
    | none=>m.s0=none
    | some k=>∃ s,m.ms[k]? = some s∧m.s0=some s.sb
  edk:∀ (k c:Nat),m.ms.length≤k→D.edges k c=none
  acc:∀ s ∈ m.ms,s.acc=(Lx.accd stop s.L).isSome∧∀ x,Lx.accd stop s.L=some x→s.pred=kindOf x.1
  ed:∀ (k:Nat) (s:SM),m.ms[k]? = some s→(s.eb=none→∀ c,D.edges k c=none)∧((∃ e,s.eb=some e)→s.eg.length=128∧∀ (c:Nat) (v:Value),s.eg[c]? = some v→EdIs m v (D.edges k c))
theorem mset_bks {h:Int} {u:Value} : ∀ (bks:List BK),mfind h (bks.map BK.kv)=some u→∃ (i:Nat) (q:BK),bks[i]? = some q∧q.h=h∧q.v=u∧∀ q':BK,q'.h=h→mset h q'.v (bks.map BK.kv)=(bks.set i q').map BK.kv
  | [],hm=>by simp [mfind] at hm
  | p :: bks, hm => by
    simp only [List.map_cons,BK.kv,mfind] at hm
    by_cases e:p.h=h
    · rw [if_pos e] at hm
      refine ⟨0,p,rfl,e,by simpa using hm,fun q' hq => ?_⟩
      simp [BK.kv,mset,e,hq]
    · rw [if_neg e] at hm
      obtain ⟨i,q,h1,h2,h3,h4⟩:=mset_bks bks hm
      refine ⟨i+1,q,by simpa using h1,h2,h3,fun q' hq => ?_⟩
      have:=h4 q' hq
      simp only [List.map_cons,BK.kv,mset,if_neg e,List.set_cons_succ] at this ⊢
      rw [this]
theorem mfind_bks_none {h:Int} : ∀ (bks:List BK),mfind h (bks.map BK.kv)=none→∀ q ∈ bks,q.h≠h
  | [],_=>by simp
  | p :: bks, hm => by
    simp only [List.map_cons,BK.kv,mfind] at hm
    by_cases e:p.h=h
    · rw [if_pos e] at hm; cases hm
    · rw [if_neg e] at hm
      intro q hq
      rcases List.mem_cons.1 hq with rfl | hq
      · exact e
      · exact mfind_bks_none bks hm q hq
theorem find_some {L:List Lx.Cf} {ms:List SM} {i:Nat} {s:SM} (h1:(ms.filter fun s=>hS s.L == hS L)[i]? = some s) (h2:L.length=s.L.length) (h3:∀ (j:Nat) (s':SM),j<i→(ms.filter fun s=>hS s.L == hS L)[j]? = some s'→L.length≠s'.L.length) :
    ∃ k,(ms.map SM.L).findIdx? (fun d=>hS d == hS L && d.length == L.length)=some k∧ms[k]? = some s:=by
  have hf:(ms.filter fun s=>hS s.L == hS L).find? (fun s=>s.L.length == L.length)=some s:=by
    rw [List.find?_eq_some_iff_getElem]
    obtain ⟨hlt,he⟩:=List.getElem?_eq_some_iff.1 h1
    refine ⟨by simpa using h2.symm,i,hlt,he,fun j hj => ?_⟩
    have:=h3 j _ hj (List.getElem?_eq_getElem (by omega))
    simpa using fun e=>this e.symm
  rw [List.find?_filter,List.find?_eq_some_iff_getElem] at hf
  obtain ⟨hp,k,hk,he,hlt⟩:=hf
  refine ⟨k,?_,by rw [List.getElem?_eq_getElem hk,he]⟩
  rw [List.findIdx?_eq_some_iff_getElem]
  refine ⟨by simpa using hk,?_,fun j hj => ?_⟩
  · simp only [List.getElem_map,he]
    simpa using hp
  · have:=hlt j hj
    simp only [List.getElem_map]
    have h2 : ¬hS ms[j].L=hS L ∨ ¬ms[j].L.length=L.length:=by simpa using this
    rw [Bool.not_eq_true,Bool.and_eq_false_iff]
    rcases h2 with h | h
    · exact .inl (by simpa using h)
    · exact .inr (by simpa using h)
theorem find_none {L:List Lx.Cf} {ms:List SM} (h:∀ (j:Nat) (s':SM),(ms.filter fun s=>hS s.L == hS L)[j]? = some s'→L.length≠s'.L.length) :
    (ms.map SM.L).findIdx? (fun d=>hS d == hS L && d.length == L.length)=none:=by
  rw [List.findIdx?_eq_none_iff]
  intro d hd
  obtain ⟨s,hs,rfl⟩:=List.mem_map.1 hd
  by_cases e:hS s.L=hS L
  · have hm:s ∈ ms.filter fun s=>hS s.L == hS L:=List.mem_filter.2 ⟨hs,by simpa using e⟩
    obtain ⟨j,hj⟩:=List.mem_iff_getElem?.1 hm
    have:=h j s hj
    have e2:(s.L.length == L.length)=false:=by simpa using fun e=>this e.symm
    rw [e2,Bool.and_false]
  · have:(hS s.L == hS L)=false:=by simpa using e
    rw [this,Bool.false_and]
end Go.Proofs.YtbcngfgemjdllaaGreatDoor
end
section
namespace Go.Own
theorem St.two {B:Nat} {w0 w:World} {l:List HP} {x y:HP} (H:St B w0 (x::l) w) (hy:y ∈ l):∃ l',St B w0 (x::y::l') w∧∀ z ∈ l,z ∈ y::l':=by
  obtain ⟨l1,l2,rfl⟩:=List.append_of_mem hy
  exact ⟨l1++l2,H.perm (List.Perm.cons _ List.perm_middle),fun z hz=>by simpa [or_comm,or_left_comm,or_assoc] using hz⟩
end Go.Own
namespace Go.Proofs.YtbcngfgemjdllaaGreatDoor
open Go.RowKit Go.Own
variable {kd bk xf pf:Nat→Nat} {B N A:Nat} {w0 w:World} {r:List HP} {X:HP} {s:SM} {m:DM} {D:Lx.DS} {stop:Nat→Bool} {kindOf:Nat→Int}
noncomputable def bkt (m:DM) (L:List Lx.Cf):List SM:=m.ms.filter fun s=>hS s.L == hS L
noncomputable def esF (m:DM) (L:List Lx.Cf) (i:Nat):Bool:=match (bkt m L)[i]? with
  | some s'=>decide (L.length=s'.L.length)
  | none=>false
theorem bkt_of {js mb cm:Nat} (h:NetB kd bk B w0 N) (hcx:CtxX xf pf B w0 X A) (hm:DMb N A m D) (hst:m.st=some (js,mb,cm)) (hX:X ∈ r)
    (hs:s.L≠[]∧(∀ x ∈ s.L,x.1<N∧x.2<A)∧s.L.length<1099511627776)
    (H:St B w0 (StoP m::stars (m.ms.map (SP kd bk xf pf))::SP kd bk xf pf s::r) w) :
    w.cell? ⟨js,0,none⟩=some (.map (some mb))∧w.cell? ⟨js,2,none⟩=some (.iface 355 (bp cm))∧SMW kd bk xf pf w s ∧
    ∃ a c,(mfind (hS s.L) (m.bks.map BK.kv)).getD (.slice none 0 0)=.slice a ((bkt m s.L).map SM.sb).length c∧(Instr.lookup 449 (.map (some mb)) (.int .i64 (hS s.L)) false).run Tryz.prog w=.ok (.slice a ((bkt m s.L).map SM.sb).length c) w∧Bkt w s.sb cm a ((bkt m s.L).map SM.sb) (esF m s.L):=by
  have H0:=H
  unfold StoP at H
  rw [hst] at H
  have HJ:=H.splits
  simp only [List.cons_append,List.nil_append] at HJ
  have hsmw:SMW kd bk xf pf w s:=SP.smw (s:=s) h hcx (by simp [hX]) hs.2.1 (H.pick 2)
  refine ⟨HJ.cells.1 0,HJ.cells.1 2,hsmw,?_⟩
  have hrun:=run_lookup_st mt449 (HJ.pick 1) (hS s.L)
  have heq:∀ (i p:Nat),((bkt m s.L).map SM.sb)[i]? = some p→∀ k,Calls Tryz.prog 330 #[bp cm,bp s.sb,bp p] (w.drewN k) fun e w'=>e=.returned (.bool (esF m s.L i))∧∃ n,w'=(w.drewN k).drewN n:=by
    intro i p hi k
    rw [List.getElem?_map] at hi
    cases hb:(bkt m s.L)[i]? with
    | none=>rw [hb] at hi; cases hi
    | some s' =>
      rw [hb] at hi
      simp at hi
      subst hi
      have hmem:s' ∈ m.ms:=(List.mem_filter.1 (List.mem_of_getElem? hb)).1
      obtain ⟨l',H1⟩:=(H0.pick 1).pickMem (List.mem_map_of_mem (f:=SP kd bk xf pf) hmem)
      have hin:SP kd bk xf pf s ∈ (l'++(StoP m::SP kd bk xf pf s::r)):=by simp
      obtain ⟨l2,H2,hz⟩:=H1.two hin
      have hX1:X ∈ SP kd bk xf pf s::l2:=hz X (by simp [hX])
      have hsmw':SMW kd bk xf pf w s':=SP.smw (s:=s') h hcx hX1 (hm.okL s' (.inl hmem)).2.1 H2
      have hne:=SP.ne H2
      have:=hsmw.c330 (cm:=cm) hsmw' hne.1.symm hne.2.symm hs.1 (by omega) k
      unfold esF
      rw [hb]
      exact this
  cases hf:mfind (hS s.L) (m.bks.map BK.kv) with
  | none =>
    have hz:bkt m s.L=[]:=by
      unfold bkt
      rw [List.filter_eq_nil_iff]
      intro s' hs'
      obtain ⟨q,hq,hh⟩:=hm.bkh s' hs'
      have:=mfind_bks_none _ hf q hq
      rw [hh] at this
      simpa using this
    refine ⟨none,0,by simp [hz],?_,⟨fun hne=>absurd (by simp [hz]) hne,heq⟩⟩
    rw [hrun,hf,hz]
    rfl
  | some u =>
    obtain ⟨i,q,hq,hh,hu,_⟩:=mset_bks _ hf
    have hqm:q ∈ m.bks:=List.mem_of_getElem? hq
    have hks:q.ks=(bkt m s.L).map SM.sb:=by rw [hm.bk q hqm,hh]; rfl
    refine ⟨q.a,q.c,?_,?_,⟨fun hne => ?_,heq⟩⟩
    · simp only [Option.getD_some,← hu,BK.v,hks]
    · rw [hrun,hf,Option.getD_some,← hu,BK.v,hks]
    · obtain ⟨l',H1⟩:=(HJ.pick 2).pickMem (List.mem_map_of_mem (f:=BK.P) hqm)
      have H2:St B w0 (Osl q.v 157 1 q.ks.length (q.ks.map bp)::_) w:=H1
      rcases H2.ownCell with ⟨_,h0,_⟩ | ⟨g,cap,e,_,hc,_⟩
      · exact absurd (List.eq_nil_of_length_eq_zero (by rw [← hks]; exact h0)) hne
      · refine ⟨g,?_,fun j p hj=>hc j _ ?_⟩
        · unfold BK.v at e; injection e
        · rw [hks,List.getElem?_map,hj]; rfl
theorem bkt_find {L:List Lx.Cf} (hm:DMb N A m D) {i p:Nat} (h1:((bkt m L).map SM.sb)[i]? = some p) (h2:esF m L i=true) (h3:∀ j,j<i→esF m L j=false):∃ k s',D.find hS L=some k∧m.ms[k]? = some s'∧p=s'.sb:=by
  rw [List.getElem?_map] at h1
  cases hb:(bkt m L)[i]? with
  | none=>rw [hb] at h1; cases h1
  | some s' =>
    rw [hb] at h1
    simp at h1
    unfold esF at h2
    rw [hb] at h2
    simp only [decide_eq_true_eq] at h2
    obtain ⟨k,hk,hks⟩:=find_some (ms:=m.ms) (i:=i) hb h2 fun j s'' hj hjs=>by
      have:=h3 j hj
      unfold esF at this
      unfold bkt at this
      rw [hjs] at this
      simpa using this
    refine ⟨k,s',?_,hks,h1.symm⟩
    unfold Lx.DS.find
    rw [hm.sts]
    exact hk
theorem bkt_none {L:List Lx.Cf} (hm:DMb N A m D) (h3:∀ j,j<((bkt m L).map SM.sb).length→esF m L j=false):D.find hS L=none:=by
  unfold Lx.DS.find
  rw [hm.sts]
  refine find_none fun j s' hj => ?_
  have hlt:=(List.getElem?_eq_some_iff.1 hj).1
  have:=h3 j (by rw [List.length_map]; exact hlt)
  unfold esF bkt at this
  rw [hj] at this
  simpa using this
end Go.Proofs.YtbcngfgemjdllaaGreatDoor
end
section
namespace Go.Proofs.YtbcngfgemjdllaaGreatDoor
open Go.RowKit Go.Own
variable {kd bk xf pf:Nat→Nat} {B N A:Nat} {w0 w:World} {r:List HP} {X:HP} {s:SM} {m:DM} {D:Lx.DS} {stop:Nat→Bool} {kindOf:Nat→Int}
def DM.ask (m:DM) (s:SM) (av:Value):DM := { m with av:=av,aq:=m.aq++[(s.sb,s.L,s.A)] }
def GetIs (m:DM) (D:Lx.DS) (L:List Lx.Cf) (e:Ending):Prop:=match D.find hS L with
  | some k=>∃ s',m.ms[k]? = some s'∧e=.returned (.tuple #[bp s'.sb,.bool true])
  | none=>∃ v,e=.returned (.tuple #[v,.bool false])
theorem DfaL_ask {d:Nat} {ats:Value} {dec:Int} {v:Value} : DfaL kd bk xf pf d ats dec (m.ask s v)=[pts d 159 [v,ats,.int .i64 dec,.pointer (m.st.map fun t=>⟨t.1,0,none⟩),.int .i64 0,.pointer (m.s0.map fun b=>⟨b,0,none⟩),.bool false],
    Osl v 157 1 (m.aq.length+1) (m.aq.map (fun q=>bp q.1)++[bp s.sb]),StoP m,stars (m.ms.map (SP kd bk xf pf)),stars (m.xs.map (SP kd bk xf pf)),stars (m.er.map ErP)]:=by
  simp [DfaL,DM.ask,dfaC,StoP]
set_option maxRecDepth 100000 in
set_option maxHeartbeats 1000000 in
theorem c106 {d:Nat} {ats:Value} {dec:Int} (h:NetB kd bk B w0 N) (hcx:CtxX xf pf B w0 X A) (hm:DMb N A m D) (hX:X ∈ r)
    (hs:s.L≠[]∧(∀ x ∈ s.L,x.1<N∧x.2<A)∧s.L.length<1099511627776) (hl:m.aq.length<1099511627776) (hl2:m.ms.length<1099511627776)
    (H:St B w0 (DfaL kd bk xf pf d ats dec m++(SP kd bk xf pf s::r)) w) :
    Calls Tryz.prog 106 #[bp d,bp s.sb] w fun e w'=>(∃ a c,St B w0 (DfaL kd bk xf pf d ats dec (m.ask s (.slice a (m.aq.length+1) c))++(SP kd bk xf pf s::r)) w') ∧
      GetIs m D s.L e:=by
  unfold DfaL dfaC at H
  simp only [List.cons_append,List.nil_append] at H
  obtain ⟨a0,c0,hav⟩:=(H.pick 1).ownVal
  rw [hav] at H
  have hd0:w.cell? ⟨d,0,none⟩=some (.slice a0 m.aq.length c0):=H.cells.1 0
  have hb1:m.aq.length+1≤maxLen:=by unfold maxLen; omega
  have hb2:(m.aq.length+1) * 8≤140737488355328:=by omega
  have hHH:=Lib.hid H
  have Hm:=Lib.hid hm
  have Hh:=Lib.hid h
  have Hcx:=Lib.hid hcx
  clear hm h hcx
  cases hst:m.st with
  | none =>
    have hfind:D.find hS s.L=none:=by
      unfold Lx.DS.find
      rw [Hm.out.sts,(Hm.out.st hst).1]
      rfl
    go_enter Tryz.func106,Tryz.ntmps106
    go_wp2_with (first
      | (at_builtin; go_must (refine wpList_append1_st rfl _ _ rfl sl155 (news:=[bp s.sb]) ((H.pick 1).alloc (ob 157 [bp s.sb])) rfl 1 rfl (by simp) rfl (by simp [Value.oneCell']) hb1 hb2 ?_); intro a' c' w1 H1
         have hd1:=(H1.pick 1).cells.1 0
         have hd3:=(H1.pick 1).cells.1 3
         have hf0:=(H1.pick 1).cells.2 0
         simp only [List.getElem?_cons_zero,List.getElem?_cons_succ,hst,Option.map_none] at hd1 hd3))
    go_ret2
    refine ⟨⟨a',c',?_⟩,by unfold GetIs; rw [hfind]; exact ⟨_,rfl⟩⟩
    rw [DfaL_ask]
    have HZ:=((H1.pick 1).setCell (off:=0) (.slice a' (m.aq.length+1) c'))
    simp only [List.set_cons_zero] at HZ
    exact HZ
  | some t =>
    obtain ⟨js,mb,cm⟩:=t
    have hll:((bkt m s.L).map SM.sb).length<4611686018427387904:=by
      rw [List.length_map]
      have:(bkt m s.L).length≤m.ms.length:=List.length_filter_le _ _
      omega
    go_enter Tryz.func106,Tryz.ntmps106
    go_wp2_with (first
      | (at_builtin; go_must (refine wpList_append1_st rfl _ _ rfl sl155 (news:=[bp s.sb]) ((H.pick 1).alloc (ob 157 [bp s.sb])) rfl 1 rfl (by simp) rfl (by simp [Value.oneCell']) hb1 hb2 ?_); intro a' c' w1 H1
         have hd1:=(H1.pick 1).cells.1 0
         have hd3:=(H1.pick 1).cells.1 3
         have hf0:=(H1.pick 1).cells.2 0
         simp only [List.getElem?_cons_zero,List.getElem?_cons_succ,hst,Option.map_some] at hd1 hd3
         have HZ:=((H1.pick 1).setCell (off:=0) (.slice a' (m.aq.length+1) c'))
         simp only [List.set_cons_zero] at HZ
         have HZh:=Lib.hid HZ
         have HY:=Lib.hid (((HZ.pick 6).pick 4).pick 4))
      | (go_at_call 146
         obtain ⟨k0,k2,ksm,a,c,km,kL,kB⟩:=bkt_of Hh.out Hcx.out Hm.out hst (by simp [hX]) hs HY.out
         refine (c146 k0 k2 (c331 ((ksm.c68 (by omega)).mono fun e w' he=>⟨he.1,he.2.symm⟩)) kL kB hll).mono ?_
         rintro e w' ⟨⟨n,rfl⟩,⟨i,p,e1,e2,e3,rfl⟩ | ⟨e1,rfl⟩⟩))
    all_goals go_ret2
    · refine ⟨⟨a',c',?_⟩,?_⟩
      · rw [DfaL_ask]
        exact HZh.out.drewN n
      · unfold GetIs
        obtain ⟨k,s',hk,hks,rfl⟩:=bkt_find Hm.out e1 e2 e3
        rw [hk]
        exact ⟨s',hks,rfl⟩
    · refine ⟨⟨a',c',?_⟩,?_⟩
      · rw [DfaL_ask]
        exact HZh.out.drewN n
      · unfold GetIs
        rw [bkt_none Hm.out e1]
        exact ⟨_,rfl⟩
end Go.Proofs.YtbcngfgemjdllaaGreatDoor
end
