/- Part 6: D14, D15, D16, D17, D18. -/
import Derived.Test.YtbcngfgemjdllaaGreatDoorB05
set_option linter.unusedVariables false
set_option linter.unusedSimpArgs false
section
namespace Go.Proofs.YtbcngfgemjdllaaGreatDoor
open Go.RowKit Go.Own
variable {kd bk xf pf:Nat→Nat} {out:Nat→List Lx.Tr} {B N A:Nat} {w0 w:World} {r:List HP}
theorem c102_set {b jb mb cmb:Nat} {S:Lx.CS} (H:SetH kd bk xf pf B w0 b jb mb cmb S r w):Calls Tryz.prog 102 #[] w fun e w'=>∃ xb,e=.returned (.pointer (some ⟨xb,0,none⟩))∧SetH kd bk xf pf B w0 b jb mb cmb S (pts xb 351 ctxC::r) w':=by
  obtain ⟨av,cv,ms,hk,H⟩:=H.ex
  refine (c102 H).mono ?_
  rintro e w' ⟨xb,rfl,H1⟩
  exact ⟨xb,rfl,SetH.ofH (av:=av) (cv:=cv) hk H1⟩
theorem c101_set {b jb mb cmb k q xb:Nat} {a:Int} {S:Lx.CS} (h:NetT kd bk out B w0 N) (hq:q<N) (ha:a=((k+1:Nat):Int)) (hz:0<k→xf 0=xf 1∧pf 0=pf 1) (hS1:∀ y ∈ S.cf,1≤y.2∧y.2≤k) (hS2:∀ y ∈ S.ask,1≤y.2∧y.2≤k)
    (H:SetH kd bk xf pf B w0 b jb mb cmb S (pts xb 351 ctxC::CtxS xf pf k::r) w) :
    Calls Tryz.prog 101 #[.iface (ty (kd q)) (.pointer (some ⟨bk q,0,none⟩)),.int .i64 a,.pointer (some ⟨xb,0,none⟩)] w
      fun e w'=>∃ nb pb,e=.returned (.pointer (some ⟨nb,0,none⟩))∧SetH kd bk (upd xf k xb) (upd pf k pb) B w0 b jb mb cmb S (pts nb 227 (cfN kd bk (upd xf k xb) (upd pf k pb) (q,k+1))::CtxS (upd xf k xb) (upd pf k pb) (k+1)::r) w':=by
  subst ha
  obtain ⟨av,cv,ms,hk,H⟩:=H.inH
  refine (c101 (h.kok _ hq) H).mono ?_
  rintro e w' ⟨nb,pb,rfl,H1⟩
  exact ⟨nb,pb,rfl,newAlt hz hS1 hS2 hk H1⟩
set_option maxRecDepth 100000 in
set_option maxHeartbeats 1000000 in
theorem c72 (h:NetT kd bk out B w0 N) (hN0:0<N) {n l:Nat} {iv:Value} (hd:∀ tr ∈ out 0,Lx.Dep out n tr.to) (hl:(Lx.st0 out n).length<1099511627776) (H:St B w0 r w) :
    Calls Tryz.prog 72 #[.pointer (some ⟨l,0,none⟩),iv,.iface (ty (kd 0)) (.pointer (some ⟨bk 0,0,none⟩))] w
      fun e w'=>∃ b jb mb cmb xf pf,e=.returned (.pointer (some ⟨b,0,none⟩))∧(0<(out 0).length→xf 0=xf 1∧pf 0=pf 1)∧SetH kd bk xf pf B w0 b jb mb cmb (Lx.adds hN ⟨[],[]⟩ (Lx.st0 out n)) (CtxS xf pf (out 0).length::r) w':=by
  obtain ⟨ta,tc,ht,hte⟩:=h.tr _ hN0
  have hok:=h.kok _ hN0
  have HH:=Lib.hid h
  have Ht:=Lib.hid ht
  have Hte:=Lib.hid hte
  have HD:=Lib.hid hd
  clear h ht hte hd
  go_enter Tryz.func72,Tryz.ntmps72
  go_wp2_with (first
    | (go_at_call 100; refine (c100 (kd:=kd) (bk:=bk) (xf:=fun _=>0) (pf:=fun _=>0) H).mono ?_; rintro e w1 ⟨b,jb,mb,cmb,rfl,H1⟩))
  go_loopw [8] (SttRel kd bk out B w0 b jb mb cmb n r) (fun i _=>(out 0).length - (intOf i).toNat)
  case atStart =>
    refine ⟨0,fun _=>0,fun _=>0,Nat.zero_le _,rfl,fun h=>absurd h (by omega),?_⟩
    obtain ⟨av,cv,ms,hk,H1⟩:=H1.ex
    exact SetH.ofH (av:=av) (cv:=cv) hk (H1.perm (r:=[]++_) (List.Perm.refl _)).joins
  case round =>
    obtain ⟨k,xf,pf,hk,rfl,hz,H1⟩:=hrel
    have ht1:wr.cell? ⟨bk 0,6,none⟩=some (.slice ta (out 0).length tc):=by rw [H1.old (HH.out.blt _ hN0),Ht.out]
    by_cases hlt:k<(out 0).length
    · obtain ⟨g,rfl,hg,htr⟩:=Hte.out (by intro e; rw [e] at hlt; simp at hlt)
      obtain ⟨hto,tk,tb,hgc,htw⟩:=htr k _ (List.getElem?_eq_getElem hlt)
      have hg1:wr.cell? ⟨g,k,none⟩=some (.iface (tyT tk) (.pointer (some ⟨tb,0,none⟩))):=by rw [H1.old hg,hgc]
      have htk:=htw.ok
      have ht0:wr.cell? ⟨tb,0,none⟩=some (.iface (ty (kd (out 0)[k].to)) (.pointer (some ⟨bk (out 0)[k].to,0,none⟩))):=by rw [H1.old htw.lt,htw.c0]
      have hk0:(0:Int)≤(k:Int):=Int.natCast_nonneg _
      have hk1:(k:Int)<((out 0).length:Int):=by omega
      have Hgk:=Lib.hid (List.getElem?_eq_getElem hlt)
      have hlen:=HH.out.len _ hN0
      have hw:wrap64 ((k:Int)+1)=((k+1:Nat):Int):=wrap_succ hlt hlen
      have Hw:=Lib.hid hw
      have hS1:∀ y ∈ (Lx.adds hN ⟨[],[]⟩ (st0K out n k)).cf,1≤y.2∧y.2≤k:=adds_mem _ (fun y=>1≤y.2∧y.2≤k) (by simp) st0K_alt
      have hS2:∀ y ∈ (Lx.adds hN ⟨[],[]⟩ (st0K out n k)).ask,1≤y.2∧y.2≤k:=by rw [Lx.adds_ask,List.nil_append]; exact st0K_alt
      have hsum:(Lx.adds hN ⟨[],[]⟩ (st0K out n k)).ask.length+(Lx.clo out n (out 0)[k].to).length<1099511627776:=by
        rw [asks_len]
        have:=st0K_le (n:=n) Hgk.out
        simp only [List.length_nil]
        omega
      have HS1:=Lib.hid hS1
      have HS2:=Lib.hid hS2
      have Hsum:=Lib.hid hsum
      have Hz:=Lib.hid hz
      clear htw htr hgc hw hS1 hS2 hsum hz
      have h101:=fun (w2:World) (xb:Nat) (a:Int) (ha:a=((k+1:Nat):Int)) (H2:SetH kd bk xf pf B w0 b jb mb cmb (Lx.adds hN ⟨[],[]⟩ (st0K out n k)) (pts xb 351 ctxC::CtxS xf pf k::r) w2)=>c101_set HH.out hto ha Hz.out HS1.out HS2.out H2
      have h103:=fun (w2:World) (nb:Nat) (xf' pf':Nat→Nat) (hz1:xf' 0=xf' 1) (hz2:pf' 0=pf' 1) (l:Nat) (iv:Value) H2=>(clo_all HH.out (ctxX_of (B:=B) (w0:=w0) (k:=k+1) (Nat.succ_pos k) hz1 hz2) n).go (l:=l) (cb:=nb) (iv:=iv) (ca:=false) (sp:=false) (w:=w2) (b:=b) (jb:=jb) (mb:=mb) (cmb:=cmb) hto (Nat.lt_succ_self (k+1)) (r:=CtxS xf' pf' (k+1)::r) (by simp)
        (fun y hy=>by have:=(HS1.out y hy).2; omega) (HD.out _ (List.getElem_mem hlt)) (adds_len _ (Nat.le_refl _)) Hsum.out H2
      have H103:=Lib.hid h103
      have H101:=Lib.hid h101
      clear h101 h103
      go_wp2_with (first
        | (go_at_call 129; refine (c129 _ _ _ ht1).mono ?_; rintro e w' ⟨rfl,rfl⟩)
        | (go_at_call 126; refine (c126 _ _ _ ht0).mono ?_; rintro e w' ⟨rfl,rfl⟩)
        | (go_at_call 102; refine (c102_set H1).mono ?_; rintro e w2 ⟨xb,rfl,H2⟩)
        | (go_at_call 101; refine (H101.out w2 xb _ (by first | exact Hw.out | omega) H2).mono ?_; rintro e w3 ⟨nb,pb,rfl,H3⟩)
        | (go_at_call 103; refine (H103.out w3 nb (upd xf k xb) (upd pf k pb) (upd_zero fun hk=>(Hz.out hk).1) (upd_zero fun hk=>(Hz.out hk).2) l iv H3).mono ?_; rintro e w4 ⟨⟨t',rfl⟩,H4⟩))
      first | rw [Hw.out] | rw [show ((k:Int)+1)=((k+1:Nat):Int) from by omega]
      refine ⟨⟨k+1,upd xf k xb,upd pf k pb,hlt,rfl,fun _=>⟨upd_zero fun hk=>(Hz.out hk).1,upd_zero fun hk=>(Hz.out hk).2⟩,?_⟩,?_⟩
      · rw [st0K_succ Hgk.out,Lx.adds_append]; exact H4
      · exact meas_lt hlt
    · have hkl:k=(out 0).length:=by omega
      have hk1 : ¬ (k:Int)<((out 0).length:Int):=by omega
      rw [hkl,st0K_all] at H1
      rw [hkl] at hz
      have Hz:=Lib.hid hz
      clear hkl hz
      go_wp2_with (first
        | (go_at_call 129; refine (c129 _ _ _ ht1).mono ?_; rintro e w' ⟨rfl,rfl⟩))
      go_ret
      exact ⟨b,jb,mb,cmb,xf,pf,rfl,Hz.out,H1⟩
end Go.Proofs.YtbcngfgemjdllaaGreatDoor
end
section
namespace Go.Proofs.YtbcngfgemjdllaaGreatDoor
open Go.RowKit Go.Own
variable {kd bk xf pf:Nat→Nat} {out:Nat→List Lx.Tr} {B N A:Nat} {w0 w:World} {r:List HP}
theorem c324 (b:Nat) (v1 v2 v3:Value) (w:World):Calls Tryz.prog 324 #[.pointer (some ⟨b,0,none⟩),v1,v2,v3] w fun e w'=>e=.returned (.bool false)∧w=w':=by
  go_enter Tryz.func324,Tryz.ntmps324
  go_wp2_with fail
  go_ret
  exact ⟨rfl,rfl⟩
theorem c334 (tb:Nat) (a c d:Int) (v2 v3:Value) (w:World) (h5:w.cell? ⟨tb,5,none⟩=some (.int .i64 a)) (h6:w.cell? ⟨tb,6,none⟩=some (.int .i64 d)) :
    Calls Tryz.prog 334 #[.pointer (some ⟨tb,0,none⟩),.int .i64 c,v2,v3] w fun e w'=>e=.returned (.bool (decide (a≤c) && decide (c≤d)))∧w=w':=by
  go_enter Tryz.func334,Tryz.ntmps334
  go_wp2_with fail
  all_goals go_ret
  all_goals refine ⟨?_,rfl⟩
  all_goals first | (simp_all; done) | (simp_all; omega)
theorem c341 (tb:Nat) (a c:Int) (v2 v3:Value) (w:World) (h2:w.cell? ⟨tb,2,none⟩=some (.int .i64 a)) :
    Calls Tryz.prog 341 #[.pointer (some ⟨tb,0,none⟩),.int .i64 c,v2,v3] w fun e w'=>e=.returned (.bool (a == c))∧w=w':=by
  go_enter Tryz.func341,Tryz.ntmps341
  go_wp2_with fail
  go_ret
  exact ⟨rfl,rfl⟩
theorem TrW.cell {tk tb:Nat} {tr:Lx.Tr} {v:Value} {o:Nat} {l:List HP} (H:St B w0 l w) (ht:TrW kd bk B w0 tk tb tr) (hv:w0.cell? ⟨tb,o,none⟩=some v):w.cell? ⟨tb,o,none⟩=some v:=by rw [H.old.1 _ _ ht.lt,hv]
def tgt (kd bk:Nat→Nat) (tr:Lx.Tr) (c:Int):Value:=if tr.fits c then .iface (ty (kd tr.to)) (.pointer (some ⟨bk tr.to,0,none⟩)) else .nilIface
set_option maxRecDepth 100000 in
set_option maxHeartbeats 1000000 in
theorem c151 {l tk tb:Nat} {tr:Lx.Tr} {c:Int} {L:List HP} (H:St B w0 L w) (ht:TrW kd bk B w0 tk tb tr) :
    Calls Tryz.prog 151 #[.pointer (some ⟨l,0,none⟩),.iface (tyT tk) (.pointer (some ⟨tb,0,none⟩)),.int .i64 c] w fun e w'=>e=.returned (tgt kd bk tr c)∧w=w':=by
  have h0:=ht.cell H ht.c0
  have hok:=ht.ok
  cases tr with
  | eps q =>
    obtain rfl:tk=1:=ht.eps rfl
    have m1 : (method 734 (tyT 1) (.pointer (some ⟨tb, 0, none⟩)) "Matches").run Tryz.prog w = .ok (324, .pointer (some ⟨tb, 0, none⟩)) w := m_tr1_Matches tb w
    clear ht H
    have et:tgt kd bk (.eps q) c=.nilIface:=rfl
    rw [et]
    clear et
    go_enter Tryz.func151,Tryz.ntmps151
    go_wp2_with (first
      | (go_at_call 324; refine (c324 _ _ _ _ _).mono ?_; rintro e w' ⟨rfl,rfl⟩))
    go_ret
    exact ⟨rfl,rfl⟩
  | sym p q t =>
    by_cases hf:(Lx.Tr.sym p q t).fits c=true
    · have et:tgt kd bk (.sym p q t) c=.iface (ty (kd t)) (.pointer (some ⟨bk t,0,none⟩)):=by unfold tgt; rw [if_pos hf]; rfl
      rw [et]
      clear et
      have hf':(decide (p≤c) && decide (c≤q))=true:=hf
      rcases ht.sym _ _ _ rfl with ⟨rfl,h5,h6⟩ | ⟨rfl,rfl,h2⟩
      · have h5:=ht.cell H h5
        have h6:=ht.cell H h6
        have h334:=c334 tb p c q (.int .i64 0) (.int .i64 1114111) w h5 h6
        rw [hf'] at h334
        have m1 : (method 734 (tyT 2) (.pointer (some ⟨tb, 0, none⟩)) "Matches").run Tryz.prog w = .ok (334, .pointer (some ⟨tb, 0, none⟩)) w := m_tr2_Matches tb w
        clear ht H hf hf'
        go_enter Tryz.func151,Tryz.ntmps151
        go_wp2_with (first
          | (go_at_call 334; refine h334.mono ?_; rintro e w' ⟨rfl,rfl⟩)
          | (go_at_call 126; refine (c126 _ _ _ h0).mono ?_; rintro e w' ⟨rfl,rfl⟩))
        go_ret
        exact ⟨rfl,rfl⟩
      · have h2:=ht.cell H h2
        have h341:=c341 tb p c (.int .i64 0) (.int .i64 1114111) w h2
        have e:(p == c)=true:=by simp at hf' ⊢; omega
        rw [e] at h341
        have m1 : (method 734 (tyT 5) (.pointer (some ⟨tb, 0, none⟩)) "Matches").run Tryz.prog w = .ok (341, .pointer (some ⟨tb, 0, none⟩)) w := m_tr5_Matches tb w
        clear ht H hf hf' e
        go_enter Tryz.func151,Tryz.ntmps151
        go_wp2_with (first
          | (go_at_call 341; refine h341.mono ?_; rintro e w' ⟨rfl,rfl⟩)
          | (go_at_call 126; refine (c126 _ _ _ h0).mono ?_; rintro e w' ⟨rfl,rfl⟩))
        go_ret
        exact ⟨rfl,rfl⟩
    · have et:tgt kd bk (.sym p q t) c=.nilIface:=by unfold tgt; rw [if_neg hf]
      rw [et]
      clear et
      have hf':(decide (p≤c) && decide (c≤q))=false:=Bool.eq_false_iff.2 hf
      rcases ht.sym _ _ _ rfl with ⟨rfl,h5,h6⟩ | ⟨rfl,rfl,h2⟩
      · have h5:=ht.cell H h5
        have h6:=ht.cell H h6
        have h334:=c334 tb p c q (.int .i64 0) (.int .i64 1114111) w h5 h6
        rw [hf'] at h334
        have m1 : (method 734 (tyT 2) (.pointer (some ⟨tb, 0, none⟩)) "Matches").run Tryz.prog w = .ok (334, .pointer (some ⟨tb, 0, none⟩)) w := m_tr2_Matches tb w
        clear ht H hf hf'
        go_enter Tryz.func151,Tryz.ntmps151
        go_wp2_with (first
          | (go_at_call 334; refine h334.mono ?_; rintro e w' ⟨rfl,rfl⟩))
        go_ret
        exact ⟨rfl,rfl⟩
      · have h2:=ht.cell H h2
        have h341:=c341 tb p c (.int .i64 0) (.int .i64 1114111) w h2
        have e:(p == c)=false:=by
          rw [beq_eq_false_iff_ne]
          intro e
          subst e
          simp at hf'
        rw [e] at h341
        have m1 : (method 734 (tyT 5) (.pointer (some ⟨tb, 0, none⟩)) "Matches").run Tryz.prog w = .ok (341, .pointer (some ⟨tb, 0, none⟩)) w := m_tr5_Matches tb w
        clear ht H hf hf' e
        go_enter Tryz.func151,Tryz.ntmps151
        go_wp2_with (first
          | (go_at_call 341; refine h341.mono ?_; rintro e w' ⟨rfl,rfl⟩))
        go_ret
        exact ⟨rfl,rfl⟩
end Go.Proofs.YtbcngfgemjdllaaGreatDoor
end
section
namespace Go.Proofs.YtbcngfgemjdllaaGreatDoor
open Go.RowKit Go.Own
variable {kd bk xf pf:Nat→Nat} {out:Nat→List Lx.Tr} {B N A:Nat} {w0 w:World} {r:List HP} {X D:HP}
theorem heap_alloc_old {w:World} {b:Nat} {o o':Obj} (h:w.heap[b]? = some o):(w.alloc o').heap[b]? = some o:=by
  have hlt:=(Array.getElem?_eq_some_iff.1 h).1
  show (w.heap.push o')[b]? = _
  rw [Array.getElem?_push,if_neg (by omega)]
  exact h
set_option maxRecDepth 100000 in
set_option maxHeartbeats 1000000 in
theorem c153_at {cb k b sb ks:Nat} {a:Int} {xb pb:Nat} (hk:KOk k) (hob:w.heap[cb]? = some (ob 227 (cfC ks sb a xb pb))) (H:St B w0 r w) (hd:∀ l w',St B w0 l w'→DOk k→w'.cell? ⟨b,8,none⟩=some (.bool false)) :
    Calls Tryz.prog 153 #[.pointer (some ⟨cb,0,none⟩),.iface (ty k) (.pointer (some ⟨b,0,none⟩)),.pointer none] w
      fun e w'=>∃ nb,e=.returned (.pointer (some ⟨nb,0,none⟩))∧St B w0 (pts nb 227 (cfC k b a xb pb)::r) w':=by
  have H1:St B w0 (pts w.heap.size 227 cfZ::r) (w.alloc (.cells #[.bool false,.nilIface,.int .i64 0,.pointer none,.nilIface,.int .i64 0,.int .i64 0,.pointer none,.bool false] 227)):=H.alloc (ob 227 cfZ)
  have hne:cb≠w.heap.size:=by have:=(Array.getElem?_eq_some_iff.1 hob).1; omega
  have hob1:(w.alloc (.cells #[.bool false,.nilIface,.int .i64 0,.pointer none,.nilIface,.int .i64 0,.int .i64 0,.pointer none,.bool false] 227)).heap[cb]? = some (ob 227 (cfC ks sb a xb pb)):=heap_alloc_old hob
  have hp8:=(cells_at hob1).1 8
  have hd2:=hd _ _ H1
  have hq2:=(cells_at hob1).1 2
  have hq3:=(cells_at hob1).1 3
  have hq4:=(cells_at hob1).1 4
  have hq5:=(cells_at hob1).1 5
  have hq0:=(cells_at hob1).1 0
  clear hob1 hob
  go_enter Tryz.func153,Tryz.ntmps153
  go_wp2_with (first
      | (go_at_call 206; go_must (refine (c206 hk hp8 hd2).mono ?_); rintro e w' ⟨rfl,rfl⟩)
      | (go_at_call 150; go_must (refine (c150 _ _ _ hq2).mono ?_); rintro e w' ⟨rfl,rfl⟩)
      | (go_at_call 200; go_must (refine (c200 _ _ _ hq3).mono ?_); rintro e w' ⟨rfl,rfl⟩)
      | (go_at_call 196; go_must (refine (c196 _ _ _ hq4).mono ?_); rintro e w' ⟨rfl,rfl⟩)
      | (go_at_call 207; go_must (refine (c207 hk H1 hq5 hq0 hne).mono ?_); rintro e w' ⟨rfl,H4⟩
         have h6:=H4.cells.1 6
         have f6:=H4.cells.2 6))
  go_ret
  exact ⟨_,rfl,H4.setCell (off:=6) (.int .i64 0)⟩
theorem c153_set (h:NetT kd bk out B w0 N) {b jb mb cmb cb q:Nat} {x:Nat × Nat} {S:Lx.CS} (hq:q<N) (hob:w.heap[cb]? = some (ob 227 (cfN kd bk xf pf x))) (H:SetH kd bk xf pf B w0 b jb mb cmb S r w) :
    Calls Tryz.prog 153 #[.pointer (some ⟨cb,0,none⟩),.iface (ty (kd q)) (.pointer (some ⟨bk q,0,none⟩)),.pointer none] w
      fun e w'=>∃ nb,e=.returned (.pointer (some ⟨nb,0,none⟩))∧SetH kd bk xf pf B w0 b jb mb cmb S (pts nb 227 (cfN kd bk xf pf (q,x.2))::r) w':=by
  obtain ⟨av,cv,ms,hk,H⟩:=H.ex
  refine (c153_at (h.kok _ hq) hob H (fun l w' H' hd=>by rw [H'.old.1 _ _ (h.blt _ hq)]; exact h.ng _ hq hd)).mono ?_
  rintro e w' ⟨nb,rfl,H1⟩
  exact ⟨nb,rfl,SetH.ofH (av:=av) (cv:=cv) hk H1⟩
structure FSX (kd bk xf pf:Nat→Nat) (B:Nat) (w0:World) (D:HP) (b:Nat) (sa:Option Addr) (cap:Nat) (cbs:List Nat) (L:List Lx.Cf):Prop where
  len:cbs.length=L.length
  sl:∀ l w',St B w0 (D::l) w'→w'.cell? ⟨b,3,none⟩=some (.slice sa L.length cap)
  row:L≠[]→∃ g,sa=some ⟨g,0,none⟩∧∀ l w',St B w0 (D::l) w'→∀ (i cb:Nat),cbs[i]? = some cb→w'.cell? ⟨g,i,none⟩=some (.pointer (some ⟨cb,0,none⟩))
  cfg:∀ l w',St B w0 (D::l) w'→∀ (i cb:Nat) (x:Lx.Cf),cbs[i]? = some cb→L[i]? = some x→w'.heap[cb]? = some (ob 227 (cfN kd bk xf pf x))
def rchJ (out:Nat→List Lx.Tr) (n:Nat) (c:Int) (x:Lx.Cf) (j:Nat):List Lx.Cf:=((out x.1).take j).flatMap fun tr=>if tr.fits c then (Lx.clo out n tr.to).map (·,x.2) else []
theorem rchJ_succ {n j:Nat} {c:Int} {x:Lx.Cf} {tr:Lx.Tr} (h:(out x.1)[j]? = some tr):rchJ out n c x (j+1)=rchJ out n c x j++(if tr.fits c then (Lx.clo out n tr.to).map (·,x.2) else []):=by
  unfold rchJ
  rw [List.take_add_one,h]
  simp
theorem rch1_succ {n k:Nat} {c:Int} {L:List Lx.Cf} {x:Lx.Cf} (h:L[k]? = some x):Lx.rch1 out n (L.take (k+1)) c=Lx.rch1 out n (L.take k) c++rchJ out n c x (out x.1).length:=by
  unfold Lx.rch1 rchJ
  rw [List.take_add_one,h,List.take_length]
  simp
theorem rchJ_le {n j k:Nat} {c:Int} {L:List Lx.Cf} {x:Lx.Cf} (h:L[k]? = some x):(Lx.rch1 out n (L.take k) c).length+(rchJ out n c x j).length≤(Lx.rch1 out n L c).length:=by
  have h1:(Lx.rch1 out n (L.take (k+1)) c).length≤(Lx.rch1 out n L c).length:=by
    conv=>rhs; rw [← List.take_append_drop (k+1) L]
    unfold Lx.rch1
    rw [List.flatMap_append,List.length_append]
    omega
  have h2:(rchJ out n c x j).length≤(rchJ out n c x (out x.1).length).length:=by
    unfold rchJ
    rw [List.take_length]
    conv=>rhs; rw [← List.take_append_drop j (out x.1)]
    rw [List.flatMap_append,List.length_append]
    omega
  rw [rch1_succ h,List.length_append] at h1
  omega
theorem rchJ_alt {n j:Nat} {c:Int} {x:Lx.Cf} : ∀ y ∈ rchJ out n c x j,y.2=x.2:=by
  intro y hy
  unfold rchJ at hy
  obtain ⟨tr,_,h2⟩:=List.mem_flatMap.1 hy
  split at h2
  · obtain ⟨_,_,rfl⟩:=List.mem_map.1 h2; rfl
  · simp at h2
theorem rch1_alt {n:Nat} {c:Int} {L:List Lx.Cf} (hL:∀ x ∈ L,x.2<A):∀ y ∈ Lx.rch1 out n L c,y.2<A:=by
  intro y hy
  unfold Lx.rch1 at hy
  obtain ⟨x,hx,h2⟩:=List.mem_flatMap.1 hy
  obtain ⟨tr,_,h3⟩:=List.mem_flatMap.1 h2
  split at h3
  · obtain ⟨_,_,rfl⟩:=List.mem_map.1 h3; exact hL x hx
  · simp at h3
end Go.Proofs.YtbcngfgemjdllaaGreatDoor
end
section
namespace Go.Proofs.YtbcngfgemjdllaaGreatDoor
open Go.RowKit Go.Own
variable {kd bk xf pf:Nat→Nat} {out:Nat→List Lx.Tr} {B N A:Nat} {w0 w:World} {r:List HP} {X D:HP}
def RchO (kd bk xf pf:Nat→Nat) (out:Nat→List Lx.Tr) (B:Nat) (w0:World) (b jb mb cmb n:Nat) (c:Int) (L:List Lx.Cf) (r:List HP) (s i:Value) (wr:World):Prop :=
  ∃ (k:Nat) (sk:Int),k≤L.length∧i=.int .i64 k∧s=.int .i64 sk∧SetH kd bk xf pf B w0 b jb mb cmb (Lx.adds hN ⟨[],[]⟩ (Lx.rch1 out n (L.take k) c)) r wr
def RchI (kd bk xf pf:Nat→Nat) (out:Nat→List Lx.Tr) (B:Nat) (w0:World) (b jb mb cmb n:Nat) (c:Int) (S:Lx.CS) (x:Lx.Cf) (r:List HP) (s i:Value) (wr:World):Prop :=
  ∃ (j:Nat) (sk:Int),j≤(out x.1).length∧i=.int .i64 j∧s=.int .i64 sk∧SetH kd bk xf pf B w0 b jb mb cmb (Lx.adds hN S (rchJ out n c x j)) r wr
theorem SetH.inD {b jb mb cmb:Nat} {S:Lx.CS} (H:SetH kd bk xf pf B w0 b jb mb cmb S r w) (hD:D ∈ r):∃ l,St B w0 (D::l) w:=by
  obtain ⟨av,cv,ms,hk,H⟩:=H.ex
  exact H.has (by simp [hD])
theorem SetH.st {b jb mb cmb:Nat} {S:Lx.CS} (H:SetH kd bk xf pf B w0 b jb mb cmb S r w):∃ l,St B w0 l w:=by
  obtain ⟨av,cv,ms,hk,H⟩:=H.ex
  exact ⟨_,H⟩
set_option maxRecDepth 100000 in
set_option maxHeartbeats 2000000 in
theorem c112 (h : NetT kd bk out B w0 N) (hcx : CtxX xf pf B w0 X A) (hX : X ∈ r) (hD : D ∈ r) {n l b jb mb cmb fb cap : Nat} {sa : Option Addr} {cbs : List Nat} {iv : Value} {c : Int} {L : List Lx.Cf} (hF : FSX kd bk xf pf B w0 D fb sa cap cbs L)
    (hL:∀ x ∈ L,x.1<N∧x.2<A) (hLl:L.length<4611686018427387904) (hd:∀ x ∈ L,∀ tr ∈ out x.1,Lx.Dep out n tr.to) (hl:(Lx.rch1 out n L c).length<1099511627776) (hc:c = -1→∀ x ∈ L,∀ tr ∈ out x.1,tr.fits c=false)
    (H:SetH kd bk xf pf B w0 b jb mb cmb ⟨[],[]⟩ r w) :
    Calls Tryz.prog 112 #[.pointer (some ⟨l,0,none⟩),iv,.pointer (some ⟨fb,0,none⟩),.pointer (some ⟨b,0,none⟩),.int .i64 c] w
      fun e w'=>e=.returned (.tuple #[])∧SetH kd bk xf pf B w0 b jb mb cmb (Lx.adds hN ⟨[],[]⟩ (Lx.rch1 out n L c)) r w':=by
  obtain ⟨l0,HD0⟩:=H.inD hD
  have hsl:=hF.sl _ _ HD0
  have HH:=Lib.hid h
  have HF:=Lib.hid hF
  have HL:=Lib.hid hL
  have Hd:=Lib.hid hd
  have Hc:=Lib.hid hc
  clear h hF hL hd hc HD0
  go_enter Tryz.func112,Tryz.ntmps112
  go_wp2_with fail
  go_loopw [10,25] (RchO kd bk xf pf out B w0 b jb mb cmb n c L r) (fun _ i _=>L.length - (intOf i).toNat)
  case atStart=>exact ⟨0,0,Nat.zero_le _,rfl,rfl,by simpa [Lx.rch1,Lx.adds] using H⟩
  case round =>
    obtain ⟨k,sk,hk,rfl,rfl,H1⟩:=hrel
    by_cases hlt:k<L.length
    · obtain ⟨g, rfl, hrow⟩ := HF.out.row (by intro e; rw [e] at hlt; simp at hlt)
      obtain ⟨l1,HD1⟩:=H1.inD hD
      obtain ⟨cb,hcb⟩:∃ cb,cbs[k]? = some cb:=⟨_,List.getElem?_eq_getElem (by rw [HF.out.len]; exact hlt)⟩
      have hgk:=hrow _ _ HD1 _ _ hcb
      obtain ⟨x,hx⟩:∃ x,L[k]? = some x:=⟨_,List.getElem?_eq_getElem hlt⟩
      have hxL:x ∈ L:=List.mem_of_getElem? hx
      have hob:=HF.out.cfg _ _ HD1 _ _ _ hcb hx
      have hq1:wr.cell? ⟨cb,1,none⟩=some (.iface (ty (kd x.1)) (.pointer (some ⟨bk x.1,0,none⟩))):=(cells_at hob).1 1
      have hq2:wr.cell? ⟨cb,2,none⟩=some (.int .i64 x.2):=(cells_at hob).1 2
      have hq8:wr.cell? ⟨cb,8,none⟩=some (.bool false):=(cells_at hob).1 8
      have hok:=HH.out.kok _ (HL.out _ hxL).1
      obtain ⟨ta,tc,ht,hte⟩:=HH.out.tr _ (HL.out _ hxL).1
      have ht1:wr.cell? ⟨bk x.1,6,none⟩=some (.slice ta (out x.1).length tc):=by rw [H1.old (HH.out.blt _ (HL.out _ hxL).1),ht]
      have Hte:=Lib.hid hte
      have Hcb:=Lib.hid hcb
      have Hx:=Lib.hid hx
      have hk0:(0:Int)≤(k:Int):=Int.natCast_nonneg _
      have hk1:(k:Int)<(L.length:Int):=by omega
      clear hte ht hob hrow hcb hx HD1
      cases hsk:((x.2:Int) == sk)
      all_goals
        go_wp2_with (first
          | (go_at_call 150; refine (c150 _ _ _ hq2).mono ?_; rintro e w' ⟨rfl,rfl⟩)
          | (go_at_call 104; refine (c104 _ _ _ hq1).mono ?_; rintro e w' ⟨rfl,rfl⟩)
          | (go_at_call 129; refine (c129 _ _ _ ht1).mono ?_; rintro e w' ⟨rfl,rfl⟩))
        go_loopw [10,44] (RchI kd bk xf pf out B w0 b jb mb cmb n c (Lx.adds hN ⟨[],[]⟩ (Lx.rch1 out n (L.take k) c)) x r) (fun _ i _=>(out x.1).length - (intOf i).toNat)
        case atStart=>exact ⟨0,sk,Nat.zero_le _,rfl,rfl,by simpa [rchJ,Lx.adds] using H1⟩
        case round =>
          clear hgk hq1 hq2 hq8 ht1
          obtain ⟨j,sk',hj,rfl,rfl,H2⟩:=hrel
          obtain ⟨l2,HD2⟩:=H2.inD hD
          have hob:=HF.out.cfg _ _ HD2 _ _ _ Hcb.out Hx.out
          have hq7:wr.cell? ⟨cb,7,none⟩=some (.pointer none):=(cells_at hob).1 7
          have Hob:=Lib.hid hob
          clear hob
          by_cases hjt:j<(out x.1).length
          · obtain ⟨g2,rfl,hg2,htr⟩:=Hte.out (by intro e; rw [e] at hjt; simp at hjt)
            obtain ⟨hto,tk,tb,hgc,htw⟩:=htr j _ (List.getElem?_eq_getElem hjt)
            have hg1:wr.cell? ⟨g2,j,none⟩=some (.iface (tyT tk) (.pointer (some ⟨tb,0,none⟩))):=by rw [H2.old hg2,hgc]
            have hj0:(0:Int)≤(j:Int):=Int.natCast_nonneg _
            have hj1:(j:Int)<((out x.1).length:Int):=by omega
            have Hgj:=Lib.hid (List.getElem?_eq_getElem hjt)
            have hlen:=HH.out.len _ (HL.out _ hxL).1
            have h151:=fun l=>c151 (l:=l) (c:=c) HD2 htw
            have hmem:(out x.1)[j] ∈ out x.1:=List.getElem_mem hjt
            clear hgc htr
            by_cases hf:(out x.1)[j].fits c=true
            · have et:tgt kd bk (out x.1)[j] c=.iface (ty (kd (out x.1)[j].to)) (.pointer (some ⟨bk (out x.1)[j].to,0,none⟩)):=by unfold tgt; rw [if_pos hf]
              have hcm:(c == -1)=false:=by
                rw [beq_eq_false_iff_ne]
                intro e
                have:=Hc.out e _ hxL _ hmem
                rw [hf] at this
                cases this
              rw [et] at h151
              have hsum:(Lx.adds hN (Lx.adds hN ⟨[],[]⟩ (Lx.rch1 out n (L.take k) c)) (rchJ out n c x j)).ask.length+(Lx.clo out n (out x.1)[j].to).length<1099511627776:=by
                rw [asks_len,asks_len]
                have h1:=rchJ_le (out:=out) (n:=n) (c:=c) (j:=j+1) Hx.out
                rw [rchJ_succ Hgj.out,if_pos hf,List.length_append,List.length_map] at h1
                simp only [List.length_nil]
                omega
              have hA1:∀ y ∈ (Lx.adds hN (Lx.adds hN ⟨[],[]⟩ (Lx.rch1 out n (L.take k) c)) (rchJ out n c x j)).cf,y.2<A :=
                adds_lt _ (adds_lt _ (by simp) (rch1_alt fun y hy=>(HL.out y (List.mem_of_mem_take hy)).2)) (fun y hy=>by rw [rchJ_alt y hy]; exact (HL.out _ hxL).2)
              have h153:=c153_set HH.out hto Hob.out H2
              have h103:=fun (w2:World) (nb:Nat) (ca sp:Bool) (l:Nat) (iv:Value) H3=>(clo_all HH.out hcx n).go (l:=l) (cb:=nb) (iv:=iv) (ca:=ca) (sp:=sp) (w:=w2) (b:=b) (jb:=jb) (mb:=mb) (cmb:=cmb) hto (HL.out _ hxL).2 (r:=r) hX hA1 (Hd.out _ hxL _ hmem) (adds_len _ (adds_len _ (Nat.le_refl _))) hsum H3
              have Hf:=Lib.hid hf
              have Hw:=Lib.hid (wrap_succ hjt hlen)
              have H103:=Lib.hid h103
              have H153:=Lib.hid h153
              have H151:=Lib.hid h151
              clear et hf hsum hA1 h103 h153 h151 htw
              go_wp2_with (first
                | (go_at_call 151; refine (H151.out _).mono ?_; rintro e w' ⟨rfl,rfl⟩)
                | (go_at_call 153; refine H153.out.mono ?_; rintro e w2 ⟨nb,rfl,H3⟩)
                | (go_at_call 150; refine (c150 _ _ _ hq4).mono ?_; rintro e w' ⟨rfl,rfl⟩)
                | (go_at_call 103; refine (H103.out w2 nb _ _ _ _ H3).mono ?_; rintro e w4 ⟨⟨t',rfl⟩,H4⟩
                   obtain ⟨l4,HD4⟩:=H4.inD hD
                   have hob4:=HF.out.cfg _ _ HD4 _ _ _ Hcb.out Hx.out
                   have hq4:w4.cell? ⟨cb,2,none⟩=some (.int .i64 x.2):=(cells_at hob4).1 2
                   clear hob4 HD4
                   cases t'))
              all_goals
                rw [show ((j:Int)+1)=((j+1:Nat):Int) from by omega]
                refine ⟨⟨j+1,_,hjt,rfl,rfl,?_⟩,meas_lt hjt⟩
                rw [rchJ_succ Hgj.out,if_pos Hf.out,Lx.adds_append]
                exact H4
            · have et:tgt kd bk (out x.1)[j] c=.nilIface:=by unfold tgt; rw [if_neg hf]
              rw [et] at h151
              have Hf:=Lib.hid hf
              have H151:=Lib.hid h151
              clear et hf h151 htw
              go_wp2_with (first
                | (go_at_call 151; refine (H151.out _).mono ?_; rintro e w' ⟨rfl,rfl⟩))
              rw [show ((j:Int)+1)=((j+1:Nat):Int) from by omega]
              refine ⟨⟨j+1,_,hjt,rfl,rfl,?_⟩,meas_lt hjt⟩
              rw [rchJ_succ Hgj.out,if_neg Hf.out,List.append_nil]
              exact H2
          · have hjl:j=(out x.1).length:=by omega
            have hj1 : ¬ (j:Int)<((out x.1).length:Int):=by omega
            have H3:SetH kd bk xf pf B w0 b jb mb cmb (Lx.adds hN ⟨[],[]⟩ (Lx.rch1 out n (L.take (k+1)) c)) r wr:=by
              rw [rch1_succ Hx.out,Lx.adds_append,← hjl]
              exact H2
            clear hjl
            go_wp2_with fail
            rw [show ((k:Int)+1)=((k+1:Nat):Int) from by omega]
            exact ⟨⟨k+1,sk',hlt,rfl,rfl,H3⟩,meas_lt hlt⟩
    · have hkl:k=L.length:=by omega
      have hk1 : ¬ (k:Int)<(L.length:Int):=by omega
      rw [hkl,List.take_length] at H1
      clear hkl
      go_wp2_with fail
      go_end0
      exact ⟨rfl,H1⟩
end Go.Proofs.YtbcngfgemjdllaaGreatDoor
end
section
namespace Go.Proofs.YtbcngfgemjdllaaGreatDoor
open Go.RowKit Go.Own
variable {kd bk xf pf:Nat→Nat} {out:Nat→List Lx.Tr} {B N A:Nat} {w0 w:World} {r:List HP} {X D:HP}
noncomputable def hStep (h:Int) (x:Lx.Cf):Int:=wrap64 (wrap64 (31 * h)+hC x.1 x.2)
noncomputable def hL (L:List Lx.Cf):Int:=L.foldl hStep 1
theorem hL_succ {L:List Lx.Cf} {k:Nat} {x:Lx.Cf} (h:L[k]? = some x):hL (L.take (k+1))=hStep (hL (L.take k)) x:=by
  unfold hL
  rw [List.take_add_one,h]
  simp [List.foldl_append]
structure FSW (kd bk xf pf:Nat→Nat) (w:World) (b:Nat) (sa:Option Addr) (cap:Nat) (cbs:List Nat) (L:List Lx.Cf):Prop where
  len:cbs.length=L.length
  sl:w.cell? ⟨b,3,none⟩=some (.slice sa L.length cap)
  row:L≠[]→∃ g,sa=some ⟨g,0,none⟩∧∀ (i cb:Nat),cbs[i]? = some cb→w.cell? ⟨g,i,none⟩=some (.pointer (some ⟨cb,0,none⟩))
  cfg:∀ (i cb:Nat) (x:Lx.Cf),cbs[i]? = some cb→L[i]? = some x→CfgW w cb (kd x.1) (bk x.1) x.1 x.2 (xf x.2) (pf x.2)
def HshRel (L:List Lx.Cf) (h i:Value):Prop:=∃ k:Nat,k≤L.length∧h=.int .i64 (hL (L.take k))∧i=.int .i64 k
set_option maxRecDepth 100000 in
theorem c134 {b cap:Nat} {sa:Option Addr} {cbs:List Nat} {L:List Lx.Cf} (hF:FSW kd bk xf pf w b sa cap cbs L) (hLl:L.length<4611686018427387904) :
    Calls Tryz.prog 134 #[.pointer (some ⟨b,0,none⟩)] w fun e w'=>e=.returned (.int .i64 (hL L))∧w'=w:=by
  have hsl:=hF.sl
  have HF:=Lib.hid hF
  clear hF
  go_enter Tryz.func134,Tryz.ntmps134
  go_wp2_with fail
  go_loop [3,11] (HshRel L) (fun _ i=>L.length - (intOf i).toNat)
  case atStart=>exact ⟨0,Nat.zero_le _,rfl,rfl⟩
  case round =>
    obtain ⟨k,hk,rfl,rfl⟩:=hrel
    by_cases hlt:k<L.length
    · obtain ⟨g,rfl,hrow⟩:=HF.out.row (by intro e; rw [e] at hlt; simp at hlt)
      obtain ⟨cb,hcb⟩:∃ cb,cbs[k]? = some cb:=⟨_,List.getElem?_eq_getElem (by rw [HF.out.len]; exact hlt)⟩
      have hgk:=hrow _ _ hcb
      obtain ⟨x,hx⟩:∃ x,L[k]? = some x:=⟨_,List.getElem?_eq_getElem hlt⟩
      have hcf:=HF.out.cfg _ _ _ hcb hx
      have Hx:=Lib.hid hx
      have hk0:(0:Int)≤(k:Int):=Int.natCast_nonneg _
      have hk1:(k:Int)<(L.length:Int):=by omega
      clear hrow hcb hx
      go_wp2_with (first
        | (go_at_call 99; refine (c99 hcf).mono ?_; rintro e w' ⟨rfl,rfl⟩))
      rw [show ((k:Int)+1)=((k+1:Nat):Int) from by omega]
      refine ⟨⟨k+1,hlt,?_,rfl⟩,meas_lt hlt⟩
      rw [hL_succ Hx.out]
      rfl
    · have hkl:k=L.length:=by omega
      have hk1 : ¬ (k:Int)<(L.length:Int):=by omega
      go_wp2_with fail
      go_ret
      first | exact ⟨rfl,rfl⟩ | (rw [hkl,List.take_length]; exact ⟨rfl,rfl⟩)
theorem c96_open {b cap:Nat} {sa:Option Addr} {cbs:List Nat} {L:List Lx.Cf} (hF:FSW kd bk xf pf w b sa cap cbs L) (hLl:L.length<4611686018427387904) (hr:w.cell? ⟨b,8,none⟩=some (.bool false)) :
    Calls Tryz.prog 96 #[.pointer (some ⟨b,0,none⟩)] w fun e w'=>e=.returned (.int .i64 (hL L))∧w'=w:=by
  go_enter Tryz.func96,Tryz.ntmps96
  go_wp2_with (first | (go_at_call 134; refine (c134 hF hLl).mono ?_; rintro e w' ⟨rfl,rfl⟩))
  go_ret
  exact ⟨rfl,rfl⟩
theorem c96_kept {b:Nat} {h:Int} (hr:w.cell? ⟨b,8,none⟩=some (.bool true)) (hc:w.cell? ⟨b,1,none⟩=some (.int .i64 h)) (hne:(h == -1)=false) :
    Calls Tryz.prog 96 #[.pointer (some ⟨b,0,none⟩)] w fun e w'=>e=.returned (.int .i64 h)∧w'=w:=by
  go_enter Tryz.func96,Tryz.ntmps96
  go_wp2_with fail
  go_ret
  exact ⟨rfl,rfl⟩
theorem c96_set {b cap:Nat} {sa:Option Addr} {cbs:List Nat} {L:List Lx.Cf} (hF:FSW kd bk xf pf w b sa cap cbs L) (hLl:L.length<4611686018427387904) (hr:w.cell? ⟨b,8,none⟩=some (.bool true)) (hc:w.cell? ⟨b,1,none⟩=some (.int .i64 (-1))) (hf:w.frozen? ⟨b,1,none⟩=false) :
    Calls Tryz.prog 96 #[.pointer (some ⟨b,0,none⟩)] w fun e w'=>e=.returned (.int .i64 (hL L))∧w'=w.setCell ⟨b,1,none⟩ (.int .i64 (hL L)):=by
  go_enter Tryz.func96,Tryz.ntmps96
  go_wp2_with (first | (go_at_call 134; refine (c134 hF hLl).mono ?_; rintro e w' ⟨rfl,rfl⟩))
  go_ret
  exact ⟨rfl,rfl⟩
end Go.Proofs.YtbcngfgemjdllaaGreatDoor
end
