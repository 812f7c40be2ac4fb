/- Part 28: D58. -/
import Derived.StillTailTactics
import Derived.Deep.AppendLies
import Derived.Deep.CutRange
import Derived.Test.YtbcngfgemjdllaaGreatDoorB27
set_option linter.unusedVariables false
set_option linter.unusedSimpArgs false
namespace Go.Proofs.YtbcngfgemjdllaaGreatDoor
open Go.RowKit Go.Own
variable {kd bk:Nat→Nat} {out:Nat→List Lx.Tr} {ru:Nat→Nat} {kindOf:Nat→Int} {stop:Nat→Bool} {B n N A at_ nr:Nat} {w0 w w':World} {r r':List HP} {P:List Lx.Cf→Prop} {decs:List Nat}
theorem St.oslOpen {v:Value} {E:TypeId} {sz n:Nat} {xs:List Value} {l:List HP} (H:St B w0 (Osl v E sz n xs::l) w):(v=.slice none 0 0∧n=0)∨∃ g cap cur,v=.slice (some ⟨g,0,none⟩) n cap∧cur.length=cap * sz∧cur.take (n * sz)=xs∧St B w0 (pts g E cur::l) w:=by
  obtain ⟨a,c,hd,he,⟨_,h1 | ⟨g,cap,cur,e,_,_,h2,h3,h4⟩⟩,hc⟩:=H.own
  · exact .inl h1
  · exact .inr ⟨g,cap,cur,e,h2,h3,H.le,H.below,a,c,hd,he,h4,hc⟩
theorem start52 {l pa ib g cap gt capt lx fb d0 lnd:Nat} {ds:List Nat} {s:ByteArray} {cc:Value} {cur:List Value} (hd0:ds[0]? = some d0)
    (H:St B w0 (pts ib 126 [.slice (some ⟨gt,0,none⟩) (tx s).length capt,.int .i64 0]::Osl (.slice (some ⟨gt,0,none⟩) (tx s).length capt) 21 1 (tx s).length ((tx s).map fun c:Nat=>Value.int .i32 (c:Int)) ::
      pts l 186 (Sim.cells ⟨at_,cc,g,lnd,cap,.iface 102 (bp lx),-1,1,0,pa,0⟩)::pts pa 234 (accC (-1) 0 (-1) (.pointer none))::pts g 117 cur::stars (ds.zipIdx.map (DfP kd bk decs))::pto lx (ob 104 lxC)::pto fb (ob 3 [.int .i64 (-1)])::r) w) :
    LRel kd bk out kindOf stop B n N A w0 P l d0 pa ib capt (some ⟨gt,0,none⟩) (tx s) ⟨at_,cc,g,lnd,cap,.iface 102 (bp lx),-1,1,0,pa,0⟩ cur (dV kd bk decs 0) ((0:Nat):Int) lx
      (pts fb 3 [.int .i64 (-1)]::stars ((ds.zipIdx.map (DfP kd bk decs)).eraseIdx 0)::r) (.slice none 0 0) w:=by
  have h1:St B w0 (ChP ib (some ⟨gt,0,none⟩) capt (tx s) 0::_) w:=H.join
  have h2:St B w0 (SimP l ⟨at_,cc,g,lnd,cap,.iface 102 (bp lx),-1,1,0,pa,0⟩ cur::_) w:=((h1.pick 3).pick 2).join
  have hz:(ds.zipIdx)[0]? = some (d0,0):=by rw [List.getElem?_zipIdx,hd0]; rfl
  have h3:=St.takeMap (h2.pick 3) hz
  have h4:=h3.ownNil 74 6
  have h5:=(((((((h4.pick 2).pick 7).pick 7).pick 3).pick 6).pick 7).pick 7).pick 7
  have h6:=DfaL0 (kd:=kd) (bk:=bk) (xf:=fun _=>0) (pf:=fun _=>0) (d:=d0) (ats:=dV kd bk decs 0) (dec:=((0:Nat):Int)) h5
  have p:∀ (x y z:List HP),(x++(y++z)).Perm (y++(x++z)):=fun x y z=>by
    rw [← List.append_assoc,← List.append_assoc]
    exact List.perm_append_comm.append_right z
  have h7:=h6.perm (p _ [_,_,_] _)
  refine ⟨(tx s).length+1,0,1,0,dsN,[],none,0,rfl,rfl,Nat.zero_le _,Nat.zero_le _,by omega,by omega,by simp [dsN],by simp [dsN],by simp,by simp,?_⟩
  exact ⟨fun _=>0,fun _=>0,dm0,-1,0,-1,0,-1,.pointer none,dm0_ok,by simp [dsN],.inl ⟨rfl,rfl,rfl,h7⟩⟩
set_option maxRecDepth 100000 in
set_option maxHeartbeats 8000000 in
theorem c52 (hR : NetR kd bk out ru kindOf B w0 N at_ nr) (hT : DecT kd bk B w0 N at_ decs) (hst : ∀ n, n < N → stop n = (kd n == 7)) (hE : Env out n N A P) (hd0 : ∀ tr ∈ out 0, Lx.Dep out n tr.to) (hout : 0 < (out 0).length) (hkd : ∀ n, kindOf n ≠ -1)
    {s:ByteArray} (ht:∀ c ∈ tx s,c≤127) (hl:s.size≤60) (H:St B w0 r w) :
    Calls Tryz.prog 52 #[bp at_,.string s,.int .i64 0,.agg #[.map none,.int .i64 0]] w fun e w'=>R52 kd bk out kindOf stop B n N A w0 P (tx s) decs r e w':=by
  have hmf:∀ (fn:Fn) (first cap:Array Value) (w:World),(Instr.makeFunc fn first cap).run Tryz.prog w=.ok (.func fn first cap) w:=fun _ _ _ _=>rfl
  obtain ⟨g0,c0,hg0,hrow,hdr⟩:=hT.row
  have H1:=H.alloc (ob 81 [.map none,.int .i64 0])
  have H2:=H1.alloc (ob 3 [.int .i64 (-1)])
  rw [show (w.alloc (ob 81 [.map none,.int .i64 0])).heap.size=w.heap.size+1 from Array.size_push _] at H2
  have H4:=H2.alloc (ob 104 lxC)
  rw [show ((w.alloc (ob 81 [.map none,.int .i64 0])).alloc (ob 3 [.int .i64 (-1)])).heap.size=w.heap.size+1+1 from by rw [show ((w.alloc (ob 81 [.map none,.int .i64 0])).alloc (ob 3 [.int .i64 (-1)])).heap.size=(w.alloc (ob 81 [.map none,.int .i64 0])).heap.size+1 from Array.size_push _,show (w.alloc (ob 81 [.map none,.int .i64 0])).heap.size=w.heap.size+1 from Array.size_push _]] at H4
  have a0:(((w.alloc (.cells #[.map none,.int .i64 0] 81)).alloc (.cells #[.int .i64 (-1)] 3)).alloc (.cells #[.map none,.int .i64 0,.slice none 0 0] 104)).cell? ⟨at_,0,none⟩=some (.slice (some ⟨g0,0,none⟩) decs.length c0):=(H4.old.1 at_ 0 hT.atlt).trans hrow
  have HH:=Lib.hid H4
  have HR:=Lib.hid (And.intro hR (And.intro hT (And.intro hst (And.intro hE (And.intro hd0 (And.intro hout (And.intro hkd (And.intro hg0 hdr))))))))
  have Ht:=Lib.hid (And.intro ht hl)
  clear hR hT hst hE hd0 hout hkd ht hl H H1 H2 H4 hrow hdr hg0
  go_enter_defers Tryz.func52,Tryz.ntmps52
  go_wp2_with fail
  go_loopw [10,26] (DecRel kd bk B w0 (pto (w.heap.size+1+1) (ob 104 lxC)::pto (w.heap.size+1) (ob 3 [.int .i64 (-1)])::r) decs) (fun _ i _=>decs.length - (intOf i).toNat)
  case atStart =>
    refine ⟨[],none,0,rfl,rfl,Nat.zero_le _,?_⟩
    have h1:=HH.out.pick 2
    exact (h1.drop.nilStars).ownNil 117 1
  case round =>
    obtain ⟨ds,a,c,rfl,rfl,hle,H5⟩:=hrel
    by_cases hlt:ds.length<decs.length
    · have hk0:(0:Int)≤(ds.length:Int):=Int.natCast_nonneg _
      have hk1:(ds.length:Int)<(decs.length:Int):=by omega
      obtain ⟨x,hx⟩:∃ x,decs[ds.length]? = some x:=⟨_,List.getElem?_eq_getElem hlt⟩
      obtain ⟨b1,b2,b3,b4,b5⟩:=HR.out.2.2.2.2.2.2.2.2 _ _ hx
      have c1:wr.cell? ⟨g0,ds.length,none⟩=some (.iface (ty (kd x)) (bp (bk x))):=(H5.old.1 g0 _ HR.out.2.2.2.2.2.2.2.1).trans b4
      have c10:kd x=10→wr.cell? ⟨bk x,10,none⟩=some (.bool false):=fun h=>(H5.old.1 _ _ b3).trans (b5 h)
      have hdv:dV kd bk decs ds.length=.iface (ty (kd x)) (bp (bk x)):=by unfold dV; rw [hx]
      have h38:=c38 (dec:=(ds.length:Int)) b2 c10 H5
      have H38:=Lib.hid h38
      have Hw:=Lib.hid (wrapS hlt (by have:=HR.out.2.1.len; omega))
      have Hlt:=Lib.hid (And.intro hlt (And.intro hdv (And.intro hx HR.out.2.1.len)))
      have hdl:ds.length<1099511627776:=by have:=HR.out.2.1.len; omega
      clear h38 H5 hdv hx b1 b2 b3 b4 b5 c10 hle
      go_wp2_with (first
        | (at_builtin; go_must (refine wpList_append1_st rfl _ _ rfl sl105 HA.out rfl 1 rfl rfl rfl (by simp [Value.oneCell']) (by simp only [maxLen]; omega) (by omega) ?_)
           intro a' c' w7 H6)
        | (go_at_call 38; refine H38.out.mono ?_; rintro e w6 ⟨d,rfl,h6⟩
           have HA:=Lib.hid (((h6.alloc (ob 117 [bp d])).pick 2).pick 1)
           clear h6))
      first | rw [Hw.out] | rw [show ((ds.length:Int)+1)=((ds.length+1:Nat):Int) from by omega]
      refine ⟨DecRel.next (d:=d) (by rw [Hlt.out.2.1]; exact H6) Hlt.out.1,measS Hlt.out.1⟩
    · have hk1 : ¬ (ds.length:Int)<(decs.length:Int):=by omega
      have hdl:ds.length=decs.length:=by omega
      have hne:=HR.out.2.1.ne
      obtain ⟨s0,hs0⟩:∃ x,decs[0]? = some x:=⟨_,List.getElem?_eq_getElem hne⟩
      obtain ⟨d0,hd0⟩:∃ x,ds[0]? = some x:=⟨_,List.getElem?_eq_getElem (by omega)⟩
      have H6:=H5
      obtain ⟨g,cap,cur,ha,hcap,hcl,htk,H7⟩:∃ g cap cur,a=some ⟨g,0,none⟩∧cap=c∧cur.length=cap∧cur.take ds.length=ds.map bp∧St B w0 (pts g 117 cur::stars (ds.zipIdx.map (DfP kd bk decs))::(pto (w.heap.size+1+1) (ob 104 lxC)::pto (w.heap.size+1) (ob 3 [.int .i64 (-1)])::r)) wr:=by
        rcases St.oslOpen H5 with ⟨e,h0⟩ | ⟨g,cap,cur,e,h2,h3,h4⟩
        · omega
        · injection e with e1 e2 e3
          rw [Nat.mul_one] at h2 h3
          exact ⟨g,cap,cur,e1,e3.symm,h2,h3,h4⟩
      subst ha hcap
      have hcur0:cur[0]? = some (bp d0):=by
        have h1:(cur.take ds.length)[0]? = some (bp d0):=by rw [htk,List.getElem?_map,hd0]; rfl
        rwa [List.getElem?_take_of_lt (by omega)] at h1
      have HH7:=Lib.hid H7
      have hds:ds[0]? = some d0∧(ds.length=decs.length∧decs.length=decs.length)∧∀ (i x:Nat),ds[i]? = some x→cur[i]? = some (bp x)   := ⟨hd0,⟨hdl,rfl⟩,fun i x hx=>by
        have hi:i<ds.length:=(List.getElem?_eq_some_iff.1 hx).1
        have h1:(cur.take ds.length)[i]? = some (bp x):=by rw [htk,List.getElem?_map,hx]; rfl
        rwa [List.getElem?_take_of_lt hi] at h1⟩
      have HHc:=Lib.hid (And.intro hcl (And.intro hcur0 (And.intro hdl (And.intro hd0 (And.intro hs0 hds)))))
      clear H5 H6 H7 hcl htk hcur0 hd0 hs0 hds
      go_wp2_with (first
        | (go_at_call 39; refine (c39 h40).mono ?_; rintro e w2 ⟨l,pa,rfl,h39⟩
           obtain ⟨gt,capt,w3,hconv,h41⟩:=run_runes s Ht.out.1 (by have:=Ht.out.2; omega) h39
           have h42:=h41.alloc (ob 126 [.slice (some ⟨gt,0,none⟩) (tx s).length capt,.int .i64 0])
           have HH8:=Lib.hid h42
           clear h39 h40 h41 h42)
        | (go_at_call 40; refine (c40 HH7.out).mono ?_; rintro e w1 ⟨cc,rfl,h40⟩))
      have HH9:=start52 (n:=n) (out:=out) (kindOf:=kindOf) (stop:=stop) (N:=N) (A:=A) (P:=P) HHc.out.2.2.2.1 HH8.out
      generalize hσ : (⟨at_,bp cc,g,decs.length,cap,.iface 102 (bp (w.heap.size+1+1)),-1,1,0,pa,0⟩:Sim) = σ at HH9
      go_loopw [8,10] (fun v dv wr=>dv=.slice (some ⟨g,0,none⟩) decs.length cap∧LRel kd bk out kindOf stop B n N A w0 P l d0 pa w3.heap.size capt (some ⟨gt,0,none⟩) (tx s) σ cur (dV kd bk decs 0) ((0:Nat):Int) (w.heap.size+1+1) (pts (w.heap.size+1) 3 [.int .i64 (-1)]::stars ((ds.zipIdx.map (DfP kd bk decs)).eraseIdx 0)::r) v wr) (fun v _ _=>(tx s).length+1 - slN v)
      case atStart=>exact ⟨rfl,HH9⟩
      case round =>
        obtain ⟨rfl,f,pos,ln,col,D,T,a,c,rfl,hf,hTp,hpt,hln,hcol,hds,hdk,hTk,hlex,hM⟩:=hrel
        obtain ⟨f,rfl⟩:∃ f',f=f'+1:=⟨f - 1,by omega⟩
        obtain ⟨m1,m2,m3⟩:=hM.cells
        have k1:wr.cell? ⟨w.heap.size+1+1,2,none⟩=some (.slice none 0 0):=(hM.any.pick 1).cells.1 2
        have k1f:=(hM.any.pick 1).cells.2 2
        have M2:=hM.map (w':=wr.setCell ⟨w.heap.size+1+1,2,none⟩ (.slice none 0 0)) (r':=Osl (.slice a T.length c) 74 6 T.length (T.flatMap tkM)::pts (w.heap.size+1+1) 104 lxC::pts (w.heap.size+1) 3 [.int .i64 (-1)]::stars ((ds.zipIdx.map (DfP kd bk decs)).eraseIdx 0)::r) (fun L H=>by
          have h:=St.behind (x:=pts (w.heap.size+1+1) 104 lxC) (y:=pts (w.heap.size+1+1) 104 lxC) (L:=L++[Osl (.slice a T.length c) 74 6 T.length (T.flatMap tkM)]) (w':=wr.setCell ⟨w.heap.size+1+1,2,none⟩ (.slice none 0 0)) (fun L H=>H.setCell (off:=2) (.slice none 0 0)) (by simpa only [List.append_assoc,List.cons_append,List.nil_append] using H)
          simpa only [List.append_assoc,List.cons_append,List.nil_append] using h)
        have hlt:=tx_len s
        have hl6:=Ht.out.2
        have h42:=c42 HR.out.1 HR.out.2.2.1 HR.out.2.2.2.1 HR.out.2.2.2.2.1 HR.out.2.2.2.2.2.1 Ht.out.1 (by omega) (by rw [← hσ]) (by rw [← hσ]; exact HR.out.2.1.ne) HHc.out.2.1 (by rw [← hσ]) hpt (by omega) (by omega) (by omega) (by omega) M2
        have H42:=Lib.hid h42
        have hl60:(tx s).length≤60:=by omega
        clear h42 M2 hM hlt hl6
        go_wp2_with (first
          | (go_at_call 43; refine (c43 _ _ _ m1).mono ?_; rintro e w' ⟨rfl,rfl⟩))
        go_at_call 42
        refine H42.out.mono ?_
        intro e w5 hM5
        have hsz:=Lx.match1_sz (h:=hN) (hs:=hS) (out:=out) (n:=n) (stop:=stop) (kindOf:=kindOf) D ((tx s).drop pos) pos ln col
        have hb:=Lx.match1_b (h:=hN) (hs:=hS) (out:=out) (n:=n) (stop:=stop) (kindOf:=kindOf) D ((tx s).drop pos) pos ln col
        have hkk:=fun tk=>match1_kind (h:=hN) (hs:=hS) (out:=out) (n:=n) (stop:=stop) (D:=D) (cs:=(tx s).drop pos) (pos:=pos) (ln:=ln) (col:=col) (tk:=tk) HR.out.2.2.2.2.2.2.1
        rcases hm:Lx.match1 hN hS out n stop kindOf D ((tx s).drop pos) pos ln col with ⟨D',res⟩
        rw [hm] at hM5 hsz hb hkk
        have Hm:=Lib.hid hm
        clear hm
        cases res with
        | tok tk =>
          obtain ⟨tk1,tk2,tk3,tk4,tk5⟩:=tk
          obtain rfl:tk2=pos:=(hb _ rfl).1
          obtain ⟨hspt,rfl,hM6⟩:=hM5
          have hM6:MSt kd bk out kindOf stop B N A w0 P l d0 pa w3.heap.size capt (some ⟨gt,0,none⟩) (tx s) σ cur (dV kd bk decs 0) ((0:Nat):Int) (Osl (.slice a T.length c) 74 6 T.length (T.flatMap tkM)::pts (w.heap.size+1+1) 104 lxC::pts (w.heap.size+1) 3 [.int .i64 (-1)]::stars ((ds.zipIdx.map (DfP kd bk decs)).eraseIdx 0)::r) D' tk3 tk4 tk5 w5:=hM6
          obtain ⟨n1,n2,n3⟩:=hM6.cells
          have kx:w5.cell? ⟨w.heap.size+1+1,2,none⟩=some (.slice none 0 0):=(hM6.any.pick 1).cells.1 2
          obtain ⟨L,HL,hback⟩:=hM6.open
          have HL2:=HL.perm List.perm_middle
          have HA:∀ o,St B w0 (pto w5.heap.size o::Osl (.slice a T.length c) 74 6 T.length (T.flatMap tkM)::(L++(pts (w.heap.size+1+1) 104 lxC::pts (w.heap.size+1) 3 [.int .i64 (-1)]::stars ((ds.zipIdx.map (DfP kd bk decs)).eraseIdx 0)::r))) ((w5.alloc o).drew):=fun o=>(HL2.alloc o).drew
          have a1:=cell_new n1
          have a2:=cell_new n2
          have a3:=cell_new n3
          have ax:=cell_new kx
          have d1:w5.drew.cell? ⟨w3.heap.size,1,none⟩=some (.int .i64 (tk3:Int)):=n1
          have d2:w5.drew.cell? ⟨l,7,none⟩=some (.int .i64 (tk4:Int)):=n2
          have d3:w5.drew.cell? ⟨l,8,none⟩=some (.int .i64 (tk5:Int)):=n3
          have dx:w5.drew.cell? ⟨w.heap.size+1+1,2,none⟩=some (.slice none 0 0):=kx
          have hTl:T.length≤60:=by omega
          have hml:T.length+1≤maxLen:=by simp only [maxLen]; omega
          have HMM:=Lib.hid (And.intro hM6 (And.intro hback HA))
          have HLX:=Lib.hid hlex
          have Hno:=Lib.hid (And.intro hkk (And.intro hb hsz))
          clear hM6 hback HA HL HL2 hlex hkk hb hsz
          go_wp2_with fail
          go_cut [8] from 49 to 85 (fun v wx=>∃ a5 c5,v=.slice a5 (T.length+1) c5∧St B w0 (Osl (.slice a5 (T.length+1) c5) 74 6 (T.length+1) (T.flatMap tkM++tkM ⟨tk1,tk2,tk3,tk4,tk5⟩)::(L++(pts (w.heap.size+1+1) 104 lxC::pts (w.heap.size+1) 3 [.int .i64 (-1)]::stars ((ds.zipIdx.map (DfP kd bk decs)).eraseIdx 0)::r))) wx)
          case first =>
            refine wp_nrm ?_
            go_region_law
              (first
                | (refine step_append1_st (v:=.slice a T.length c) (xs:=T.flatMap tkM) rfl _ _ rfl sl99 (g:=w5.heap.size) (news:=tkM ⟨tk1,tk2,tk3,tk4,tk5⟩) (HMM.out.2.2 (ob 74 (tkM ⟨tk1,tk2,tk3,tk4,tk5⟩))) rfl 1 rfl rfl rfl (by simp [tkM,Value.oneCell']) hml (by omega) ?_
                   intro a5 c5 w6 H5)
                | (go_simp; go_at_call 43; refine (c43 _ _ _ (by first | exact n1 | exact d1 | exact a1 _)).mono ?_; rintro e w' ⟨rfl,rfl⟩)
                | (go_simp; go_at_call 44; refine (c44 _ _ _ (by first | exact n2 | exact d2 | exact a2 _)).mono ?_; rintro e w' ⟨rfl,rfl⟩)
                | (go_simp; go_at_call 45; refine (c45 _ _ _ (by first | exact n3 | exact d3 | exact a3 _)).mono ?_; rintro e w' ⟨rfl,rfl⟩))
            all_goals rw [nrm_normal]
            all_goals go_wp2_with fail
            all_goals refine Met.intro ?_
            all_goals go_simp
            all_goals (go_step; (repeat apply Exists.intro); exact ⟨⟨_,_,rfl,H5⟩,rfl⟩)
          case rest =>
            obtain ⟨a5,c5,rfl,H5⟩:=hcut
            have M8:=HMM.out.2.1 _ wc (H5.perm List.perm_middle.symm)
            obtain ⟨n1,n2,n3⟩:=M8.cells
            have ky:=(M8.any.pick 2).cells.1 0
            have kyf:=(M8.any.pick 2).cells.2 0
            have HM8:=Lib.hid M8
            clear H5 M8 a1 a2 a3 ax d1 d2 d3 dx kx
            have hk1:(tk1 == (-1:Int))=false:=by rw [beq_eq_false_iff_ne]; exact Hno.out.1 _ rfl
            by_cases hst:tk3=tk2
            · have hbe:((tk3:Int) == (tk2:Int))=true:=by rw [hst]; exact beq_self_eq_true _
              have kyd:wc.drew.cell? ⟨w.heap.size+1,0,none⟩=some (.int .i64 (-1)):=ky
              have kyfd:wc.drew.frozen? ⟨w.heap.size+1,0,none⟩=false:=kyf
              go_wp2_with (first
                | (go_at_call 43; refine (c43 _ _ _ (by exact n1)).mono ?_; rintro e w' ⟨rfl,rfl⟩))
              refine wp_nrm ?_
              go_region
              all_goals rw [nrm_normal]
              all_goals go_wp2_with fail
              refine leaves_cons (f:=67) (args:=#[.pointer (some ⟨w.heap.size+1,0,none⟩)]) (by simp) (by simp [go_sem]) ?_
              refine (c67_idle _).mono ?_
              rintro e u' w'' ⟨rfl,rfl,rfl⟩
              have M9:=HM8.out.map (w':=(wc.setCell ⟨w.heap.size+1,0,none⟩ (.int .i64 (-1))).drew) (r':=Osl (.slice a5 (T.length+1) c5) 74 6 (T.length+1) (T.flatMap tkM++tkM ⟨tk1,tk2,tk3,tk4,tk5⟩)::pts (w.heap.size+1+1) 104 lxC::pts (w.heap.size+1) 3 [.int .i64 (-1)]::stars ((ds.zipIdx.map (DfP kd bk decs)).eraseIdx 0)::r) (fun L H=>by
                have h:=St.behind (x:=pts (w.heap.size+1) 3 [.int .i64 (-1)]) (y:=pts (w.heap.size+1) 3 [.int .i64 (-1)]) (L:=L++[Osl (.slice a5 (T.length+1) c5) 74 6 (T.length+1) (T.flatMap tkM++tkM ⟨tk1,tk2,tk3,tk4,tk5⟩),pts (w.heap.size+1+1) 104 lxC]) (w':=(wc.setCell ⟨w.heap.size+1,0,none⟩ (.int .i64 (-1))).drew) (fun L H=>(H.setCell (off:=0) (.int .i64 (-1))).drew) (by simpa only [List.append_assoc,List.cons_append,List.nil_append] using H)
                simpa only [List.append_assoc,List.cons_append,List.nil_append] using h)
              have hl:=HLX.out
              rw [lexF_stop Hm.out hst] at hl
              have hall:∀ x ∈ T++[⟨tk1,tk2,tk3,tk4,tk5⟩],x.kind ≠ -1:=by
                intro x hx
                rcases List.mem_append.1 hx with hx | hx
                · exact hTk x hx
                · rw [List.mem_singleton.1 hx]; exact Hno.out.1 _ rfl
              have zz:(wc.setCell ⟨w.heap.size+1,0,none⟩ (.int .i64 (-1))).drew.cell? ⟨w.heap.size+1,0,none⟩=some (.int .i64 (-1)):=(M9.any.pick 2).cells.1 0
              have zz2:(wc.setCell ⟨w.heap.size+1,0,none⟩ (.int .i64 (-1))).cell? ⟨w.heap.size+1,0,none⟩=some (.int .i64 (-1)):=zz
              refine ⟨.tuple #[.slice a5 (T.length+1) c5,.int .i64 (-1),.slice (some ⟨g,0,none⟩) decs.length cap],by simp [results,Tryz.results52,go_sem,zz,zz2],?_⟩
              have e1:T.length+1=(T++[(⟨tk1,tk2,tk3,tk4,tk5⟩:Lx.Tok)]).length+eoN none:=by simp [eoN]
              have e2:T.flatMap tkM++tkM ⟨tk1,tk2,tk3,tk4,tk5⟩=(T++[(⟨tk1,tk2,tk3,tk4,tk5⟩:Lx.Tok)]).flatMap tkM++eoC none:=by simp [eoC]
              rw [e1,e2] at M9
              exact fin52 (by rw [hl]; exact (noEnd_all hall).symm) hall (by rw [← hσ]; obtain ⟨x1,⟨x2,_⟩,x3⟩:=HHc.out.2.2.2.2.2; exact ⟨x1,⟨x2,rfl⟩,x3⟩) (by rw [hl]) (by rw [hl,← hσ,e1]) M9
            · have hne:((tk3:Int) == (tk2:Int))=false:=by rw [beq_eq_false_iff_ne]; omega
              go_wp2_with (first
                | (go_at_call 43; refine (c43 _ _ _ (by exact n1)).mono ?_; rintro e w' ⟨rfl,rfl⟩))
              go_roundw
              case rel =>
                have hl:=HLX.out
                rw [lexF_tok Hm.out hst] at hl
                obtain ⟨_,hb2,hb3,hb4⟩:=Hno.out.2.1 _ rfl
                have hz:=Hno.out.2.2
                have hz1:=hz.s
                have hz2:=hz.a
                rw [List.length_drop] at hz1 hz2
                dsimp only at hb2 hb3 hb4 hspt hz1 hz2
                refine ⟨rfl,f,tk3,tk4,tk5,D',T++[⟨tk1,tk2,tk3,tk4,tk5⟩],a5,c5,by simp,?_,?_,hspt,?_,?_,?_,?_,?_,?_,?_⟩
                · simp only [List.length_append,List.length_cons,List.length_nil]; omega
                · simp only [List.length_append,List.length_cons,List.length_nil]; omega
                · omega
                · omega
                · simp only [List.length_append,List.length_cons,List.length_nil]; omega
                · simp only [List.length_append,List.length_cons,List.length_nil]; omega
                · intro x hx
                  rcases List.mem_append.1 hx with hx | hx
                  · exact hTk x hx
                  · rw [List.mem_singleton.1 hx]; exact Hno.out.1 _ rfl
                · rw [hl]; simp
                · have:=HM8.out
                  simpa only [List.length_append,List.length_cons,List.length_nil,List.flatMap_append,List.flatMap_cons,List.flatMap_nil,List.append_nil,Nat.zero_add] using this
              case measure =>
                show (tx s).length+1 - (T.length+1)<(tx s).length+1 - T.length
                omega
        | eof =>
          obtain ⟨rfl,ln5,col5,hM6⟩:=hM5
          have hM6:MSt kd bk out kindOf stop B N A w0 P l d0 pa w3.heap.size capt (some ⟨gt,0,none⟩) (tx s) σ cur (dV kd bk decs 0) ((0:Nat):Int) (Osl (.slice a T.length c) 74 6 T.length (T.flatMap tkM)::pts (w.heap.size+1+1) 104 lxC::pts (w.heap.size+1) 3 [.int .i64 (-1)]::stars ((ds.zipIdx.map (DfP kd bk decs)).eraseIdx 0)::r) D' pos ln5 col5 w5:=hM6
          obtain ⟨n1,n2,n3⟩:=hM6.cells
          have kx:w5.cell? ⟨w.heap.size+1+1,2,none⟩=some (.slice none 0 0):=(hM6.any.pick 1).cells.1 2
          obtain ⟨L,HL,hback⟩:=hM6.open
          have HL2:=HL.perm List.perm_middle
          have HA:∀ o,St B w0 (pto w5.heap.size o::Osl (.slice a T.length c) 74 6 T.length (T.flatMap tkM)::(L++(pts (w.heap.size+1+1) 104 lxC::pts (w.heap.size+1) 3 [.int .i64 (-1)]::stars ((ds.zipIdx.map (DfP kd bk decs)).eraseIdx 0)::r))) ((w5.alloc o).drew):=fun o=>(HL2.alloc o).drew
          have a1:=cell_new n1
          have a2:=cell_new n2
          have a3:=cell_new n3
          have ax:=cell_new kx
          have d1:w5.drew.cell? ⟨w3.heap.size,1,none⟩=some (.int .i64 (pos:Int)):=n1
          have d2:w5.drew.cell? ⟨l,7,none⟩=some (.int .i64 ln5):=n2
          have d3:w5.drew.cell? ⟨l,8,none⟩=some (.int .i64 col5):=n3
          have dx:w5.drew.cell? ⟨w.heap.size+1+1,2,none⟩=some (.slice none 0 0):=kx
          have hTl:T.length≤60:=by omega
          have hml:T.length+1≤maxLen:=by simp only [maxLen]; omega
          have HMM:=Lib.hid (And.intro hback HA)
          have HLX:=Lib.hid hlex
          clear hM6 hback HA HL HL2 hlex hkk hb hsz
          go_wp2_with fail
          go_cut [8] from 49 to 85 (fun v wx=>∃ a5 c5,v=.slice a5 (T.length+1) c5∧St B w0 (Osl (.slice a5 (T.length+1) c5) 74 6 (T.length+1) (T.flatMap tkM++eoC (some (pos,ln5,col5)))::(L++(pts (w.heap.size+1+1) 104 lxC::pts (w.heap.size+1) 3 [.int .i64 (-1)]::stars ((ds.zipIdx.map (DfP kd bk decs)).eraseIdx 0)::r))) wx)
          case first =>
            go_wp2_with fail
            refine wp_nrm ?_
            go_region_law
              (first
                | (refine step_append1_st (v:=.slice a T.length c) (xs:=T.flatMap tkM) rfl _ _ rfl sl99 (g:=w5.heap.size) (news:=eoC (some (pos,ln5,col5))) (HMM.out.2 (ob 74 (eoC (some (pos,ln5,col5))))) rfl 1 rfl rfl rfl (by simp [eoC,Value.oneCell']) hml (by omega) ?_
                   intro a5 c5 w6 H5)
                | (go_simp; go_at_call 43; refine (c43 _ _ _ (by first | exact n1 | exact d1 | exact a1 _)).mono ?_; rintro e w' ⟨rfl,rfl⟩)
                | (go_simp; go_at_call 44; refine (c44 _ _ _ (by first | exact n2 | exact d2 | exact a2 _)).mono ?_; rintro e w' ⟨rfl,rfl⟩)
                | (go_simp; go_at_call 45; refine (c45 _ _ _ (by first | exact n3 | exact d3 | exact a3 _)).mono ?_; rintro e w' ⟨rfl,rfl⟩))
            all_goals rw [nrm_normal]
            all_goals go_wp2_with fail
            all_goals refine Met.intro ?_
            all_goals go_simp
            all_goals (go_step; (repeat apply Exists.intro); exact ⟨⟨_,_,rfl,H5⟩,rfl⟩)
          case rest =>
            obtain ⟨a5,c5,rfl,H5⟩:=hcut
            have M8:=HMM.out.1 _ wc (H5.perm List.perm_middle.symm)
            have ky:=(M8.any.pick 2).cells.1 0
            have kyf:=(M8.any.pick 2).cells.2 0
            have HM8:=Lib.hid M8
            clear H5 M8 a1 a2 a3 ax d1 d2 d3 dx kx n1 n2 n3
            have kyd:wc.drew.cell? ⟨w.heap.size+1,0,none⟩=some (.int .i64 (-1)):=ky
            have kyfd:wc.drew.frozen? ⟨w.heap.size+1,0,none⟩=false:=kyf
            go_wp2_with fail
            refine wp_nrm ?_
            go_region
            all_goals rw [nrm_normal]
            all_goals go_wp2_with fail
            refine leaves_cons (f:=67) (args:=#[.pointer (some ⟨w.heap.size+1,0,none⟩)]) (by simp) (by simp [go_sem]) ?_
            refine (c67_idle _).mono ?_
            rintro e u' w'' ⟨rfl,rfl,rfl⟩
            have M9:=HM8.out.map (w':=(wc.setCell ⟨w.heap.size+1,0,none⟩ (.int .i64 (-1))).drew) (r':=Osl (.slice a5 (T.length+1) c5) 74 6 (T.length+1) (T.flatMap tkM++eoC (some (pos,ln5,col5)))::pts (w.heap.size+1+1) 104 lxC::pts (w.heap.size+1) 3 [.int .i64 (-1)]::stars ((ds.zipIdx.map (DfP kd bk decs)).eraseIdx 0)::r) (fun L H=>by
              have h:=St.behind (x:=pts (w.heap.size+1) 3 [.int .i64 (-1)]) (y:=pts (w.heap.size+1) 3 [.int .i64 (-1)]) (L:=L++[Osl (.slice a5 (T.length+1) c5) 74 6 (T.length+1) (T.flatMap tkM++eoC (some (pos,ln5,col5))),pts (w.heap.size+1+1) 104 lxC]) (w':=(wc.setCell ⟨w.heap.size+1,0,none⟩ (.int .i64 (-1))).drew) (fun L H=>(H.setCell (off:=0) (.int .i64 (-1))).drew) (by simpa only [List.append_assoc,List.cons_append,List.nil_append] using H)
              simpa only [List.append_assoc,List.cons_append,List.nil_append] using h)
            have hl:=HLX.out
            rw [lexF_eof Hm.out] at hl
            have zz:(wc.setCell ⟨w.heap.size+1,0,none⟩ (.int .i64 (-1))).drew.cell? ⟨w.heap.size+1,0,none⟩=some (.int .i64 (-1)):=(M9.any.pick 2).cells.1 0
            have zz2:(wc.setCell ⟨w.heap.size+1,0,none⟩ (.int .i64 (-1))).cell? ⟨w.heap.size+1,0,none⟩=some (.int .i64 (-1)):=zz
            refine ⟨.tuple #[.slice a5 (T.length+1) c5,.int .i64 (-1),.slice (some ⟨g,0,none⟩) decs.length cap],by simp [results,Tryz.results52,go_sem,zz,zz2],?_⟩
            exact fin52 (x:=some (pos,ln5,col5)) (by rw [hl]; exact (noEnd_end hTk).symm) hTk (by rw [← hσ]; obtain ⟨x1,⟨x2,_⟩,x3⟩:=HHc.out.2.2.2.2.2; exact ⟨x1,⟨x2,rfl⟩,x3⟩) (by rw [hl]) (by rw [hl,← hσ]; rfl) M9
        | fail =>
          obtain ⟨pb,z,p5,ln5,col5,rfl,hM6⟩:=hM5
          have hM6:MSt kd bk out kindOf stop B N A w0 P l d0 pa w3.heap.size capt (some ⟨gt,0,none⟩) (tx s) σ cur (dV kd bk decs 0) ((0:Nat):Int) (pts pb 215 [.int .i64 (pos:Int),z]::Osl (.slice a T.length c) 74 6 T.length (T.flatMap tkM)::pts (w.heap.size+1+1) 104 lxC::pts (w.heap.size+1) 3 [.int .i64 (-1)]::stars ((ds.zipIdx.map (DfP kd bk decs)).eraseIdx 0)::r) D' p5 ln5 col5 w5:=hM6
          have hn:=hM6.any.cells.1 0
          have hx:=(hM6.any.pick 3).cells.1 0
          have hf:=(hM6.any.pick 3).cells.2 0
          refine leaves_cons (f:=67) (args:=#[.pointer (some ⟨w.heap.size+1,0,none⟩)]) (by simp) (by simp [go_sem]) ?_
          refine (c67_fail (z:=z) hx hf hn).mono ?_
          rintro e u' w'' ⟨rfl,rfl,rfl⟩
          have M9:=hM6.map (w':=w5.setCell ⟨w.heap.size+1,0,none⟩ (.int .i64 (pos:Int))) (r':=Osl (.slice a T.length c) 74 6 T.length (T.flatMap tkM)::pts (w.heap.size+1+1) 104 lxC::pts (w.heap.size+1) 3 [.int .i64 (pos:Int)]::stars ((ds.zipIdx.map (DfP kd bk decs)).eraseIdx 0)::r) (fun L H=>by
            have h:=St.behind (x:=pts (w.heap.size+1) 3 [.int .i64 (-1)]) (y:=pts (w.heap.size+1) 3 [.int .i64 (pos:Int)]) (L:=L++[pts pb 215 [.int .i64 (pos:Int),z],Osl (.slice a T.length c) 74 6 T.length (T.flatMap tkM),pts (w.heap.size+1+1) 104 lxC]) (w':=w5.setCell ⟨w.heap.size+1,0,none⟩ (.int .i64 (pos:Int))) (fun L H=>H.setCell (off:=0) (.int .i64 (pos:Int))) (by simpa only [List.append_assoc,List.cons_append,List.nil_append] using H)
            have h2:St B w0 (L++(pts pb 215 [.int .i64 (pos:Int),z]::(Osl (.slice a T.length c) 74 6 T.length (T.flatMap tkM)::pts (w.heap.size+1+1) 104 lxC::pts (w.heap.size+1) 3 [.int .i64 (pos:Int)]::stars ((ds.zipIdx.map (DfP kd bk decs)).eraseIdx 0)::r))) (w5.setCell ⟨w.heap.size+1,0,none⟩ (.int .i64 (pos:Int))):=by simpa only [List.append_assoc,List.cons_append,List.nil_append] using h
            exact (h2.perm List.perm_middle).drop)
          rw [lexF_fail Hm.out] at hlex
          have zz:(w5.setCell ⟨w.heap.size+1,0,none⟩ (.int .i64 (pos:Int))).cell? ⟨w.heap.size+1,0,none⟩=some (.int .i64 (pos:Int)):=(M9.any.pick 2).cells.1 0
          refine ⟨.tuple #[.slice a T.length c,.int .i64 (pos:Int),.slice (some ⟨g,0,none⟩) decs.length cap],by simp [results,Tryz.results52,go_sem,zz],?_⟩
          have e1:T.length=T.length+eoN none:=rfl
          have e2:T.flatMap tkM=T.flatMap tkM++eoC none:=by simp [eoC]
          rw [e2] at M9
          exact fin52 (x:=none) (by rw [hlex]; simp only [List.append_nil]; exact (noEnd_all hTk).symm) hTk (by rw [← hσ]; obtain ⟨x1,⟨x2,_⟩,x3⟩:=HHc.out.2.2.2.2.2; exact ⟨x1,⟨x2,rfl⟩,x3⟩) (by rw [hlex]) (by rw [hlex,← hσ]; rfl) M9
end Go.Proofs.YtbcngfgemjdllaaGreatDoor
