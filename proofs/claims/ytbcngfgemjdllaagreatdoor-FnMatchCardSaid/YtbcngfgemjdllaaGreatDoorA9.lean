/- Part A9: PO, Y1, Y2, L3g, L9. No conditions beyond those each statement names. -/
import Derived.BigQuiet
import Derived.Test.YtbcngfgemjdllaaGreatDoorB14
import Derived.Test.YtbcngfgemjdllaaGreatDoorB15
import Derived.Test.YtbcngfgemjdllaaGreatDoorB28
import Derived.Test.YtbcngfgemjdllaaGreatDoorB30
import Derived.Test.YtbcngfgemjdllaaGreatDoorB42
import Derived.Test.YtbcngfgemjdllaaGreatDoorB43
import Derived.Test.YtbcngfgemjdllaaGreatDoorB45
import Derived.Test.YtbcngfgemjdllaaGreatDoorB47
set_option linter.unusedVariables false
set_option linter.unusedSimpArgs false
section
namespace Lx
section
variable {t:List Nat} {p:Nat}
variable {rules:List Ex}
variable {h:Cf→Int} {hs:List Cf→Int} {out:Nat→List Tr} {n:Nat} {stop:Nat→Bool} {kindOf:Nat→Int}
def AccRel (p:Nat):Option AccR→Option AccR→Prop
  | none,none=>True
  | some a,some b=>b.pos=p+a.pos∧b.st=a.st
  | _,_=>False
theorem runF_at:∀ (cs:List Nat) (D:DS) (k pos ln col ln' col':Nat) (acc acc':Option AccR),AccRel p acc acc' →
    (runF h hs out n stop cs D k (p+pos) ln' col' acc').1=(runF h hs out n stop cs D k pos ln col acc).1∧AccRel p (runF h hs out n stop cs D k pos ln col acc).2.1 (runF h hs out n stop cs D k (p+pos) ln' col' acc').2.1 ∧
      (runF h hs out n stop cs D k (p+pos) ln' col' acc').2.2.1=p+(runF h hs out n stop cs D k pos ln col acc).2.2.1∧(runF h hs out n stop cs D k (p+pos) ln' col' acc').2.2.2=(runF h hs out n stop cs D k pos ln col acc).2.2.2
  | [],D,k,pos,ln,col,ln',col',acc,acc',ha=>⟨rfl,ha,rfl,rfl⟩
  | c :: cs, D, k, pos, ln, col, ln', col', acc, acc', ha => by
    simp only [runF]
    cases (D.stepD h hs out n k c).2 with
    | none=>exact ⟨rfl,ha,rfl,rfl⟩
    | some k' =>
      simp only
      rw [show p+pos+1=p+(pos+1) from by omega]
      refine runF_at cs _ k' (pos+1) _ _ _ _ _ _ ?_
      split
      · exact ⟨rfl,rfl⟩
      · exact ha
theorem match1_at (D:DS) (cs:List Nat) (pos ln col ln' col':Nat):(match1 h hs out n stop kindOf D cs (p+pos) ln' col').1=(match1 h hs out n stop kindOf D cs pos ln col).1 ∧
    match (match1 h hs out n stop kindOf D cs pos ln col).2,(match1 h hs out n stop kindOf D cs (p+pos) ln' col').2 with
    | .tok a,.tok b=>b.kind=a.kind∧b.start=p+pos∧b.stop=p+a.stop
    | .eof,.eof=>True
    | .fail,.fail=>True
    | _,_=>False:=by
  have key:=runF_at (p:=p) (h:=h) (hs:=hs) (out:=out) (n:=n) (stop:=stop) cs (D.startD h hs out n).1 (D.startD h hs out n).2 pos ln col ln' col'
    (if (accd stop ((D.startD h hs out n).1.cfs (D.startD h hs out n).2)).isSome then some ⟨pos,ln,col,(D.startD h hs out n).2⟩ else none)
    (if (accd stop ((D.startD h hs out n).1.cfs (D.startD h hs out n).2)).isSome then some ⟨p+pos,ln',col',(D.startD h hs out n).2⟩ else none) (by split <;> simp [AccRel])
  unfold match1
  simp only
  generalize runF h hs out n stop cs (D.startD h hs out n).1 (D.startD h hs out n).2 pos ln col _=r1 at key ⊢
  generalize runF h hs out n stop cs (D.startD h hs out n).1 (D.startD h hs out n).2 (p+pos) ln' col' _=r2 at key ⊢
  obtain ⟨k1,k2,k3,k4⟩:=key
  refine ⟨k1,?_⟩
  obtain ⟨D1,a1,p1,b1⟩:=r1
  obtain ⟨D2,a2,p2,b2⟩:=r2
  simp only at k1 k2 k3 k4 ⊢
  subst k1 k3 k4
  cases a1 with
  | none =>
    cases a2 with
    | some _=>exact k2.elim
    | none =>
      simp only
      by_cases e:(b2 && p1 == pos)=true
      · have:(b2 && p+p1 == p+pos)=true:=by simpa using e
        rw [if_pos e,if_pos this]; trivial
      · have : ¬ (b2 && p+p1 == p+pos)=true:=by simpa using e
        rw [if_neg e,if_neg this]; trivial
  | some a =>
    cases a2 with
    | none=>exact k2.elim
    | some b =>
      obtain ⟨q1,q2⟩:=k2
      simp only [q2,q1,and_self,true_and]
theorem one_ok (hf:Fit out n stop kindOf rules) (hne:∀ r i j,Mt rules (t.drop p) r i j→i<j) (hp:p≤t.length) {ln col:Nat}
    (hap:AP h hs (match1 h hs out n stop kindOf ⟨[],fun _ _=>none,[],none⟩ (t.drop p) 0 1 0).1.asked) :
    match (match1 h hs out n stop kindOf ⟨[],fun _ _=>none,[],none⟩ (t.drop p) p ln col).2 with
    | .tok tk=>tk.start=p∧∃ r:Nat,tk.kind=r+1∧Lgst rules t p r tk.stop
    | .eof=>p=t.length
    | .fail=>p<t.length∧∀ r j,¬ Mt rules t r p j:=by
  have h1:=(match1_ok (t:=t.drop p) (pos:=0) (ln:=1) (col:=0) hf hne (Nat.zero_le _) (Inv.nil (out:=out) (n:=n)) rfl (by simpa using hap)).2
  have h2:=(match1_at (p:=p) (h:=h) (hs:=hs) (out:=out) (n:=n) (stop:=stop) (kindOf:=kindOf) ⟨[],fun _ _=>none,[],none⟩ (t.drop p) 0 1 0 ln col).2
  simp only [List.drop_zero,Nat.add_zero] at h1 h2
  generalize (match1 h hs out n stop kindOf ⟨[],fun _ _=>none,[],none⟩ (t.drop p) 0 1 0).2=r1 at h1 h2
  generalize (match1 h hs out n stop kindOf ⟨[],fun _ _=>none,[],none⟩ (t.drop p) p ln col).2=r2 at h2 ⊢
  cases r1 with
  | tok a =>
    cases r2 with
    | tok b =>
      simp only at h1 h2 ⊢
      obtain ⟨_,_,_,_,r,k1,k2⟩:=h1
      refine ⟨h2.2.1,r,by rw [h2.1,k1],?_⟩
      rw [h2.2.2]
      exact (Lgst_drop 0 r a.stop).1 k2
    | eof=>exact h2.elim
    | fail=>exact h2.elim
  | eof =>
    cases r2 with
    | tok b=>exact h2.elim
    | eof=>simp only [List.length_drop] at h1 ⊢; omega
    | fail=>exact h2.elim
  | fail =>
    cases r2 with
    | tok b=>exact h2.elim
    | eof=>exact h2.elim
    | fail =>
      simp only [List.length_drop] at h1 ⊢
      refine ⟨by omega,fun r j hm => ?_⟩
      have:=Mt_le hm
      obtain ⟨k,rfl⟩:∃ k,j=p+k:=⟨j - p,by omega⟩
      exact h1.2 r k ((Mt_drop r 0 k).2 hm)
end
end Lx
end
section
namespace Go.Proofs.YtbcngfgemjdllaaGreatDoor
open Go.RowKit Go.Own
variable {kd bk:Nat→Nat} {out:Nat→List Lx.Tr} {ru:Nat→Nat} {kindOf:Nat→Int} {stop:Nat→Bool} {B n N A at_ nr:Nat} {w0 w w':World} {r r':List HP} {P:List Lx.Cf→Prop} {decs:List Nat}
def tk0:List Value:=[.int .i64 0,.int .i64 0,.int .i64 0,.int .i64 0,.int .i64 0,.slice none 0 0]
theorem c41_idle (p q:Addr):CallsD Tryz.prog 41 #[.pointer (some p),.pointer (some q)] .returning w fun e u' w'=>u'=.returning∧e=.returned (.tuple #[])∧w'=w:=by
  refine callsD_of_wpS Tryz.func41 rfl fun c₀ cs hu => ?_
  apply wpS_seq
  apply wpS_region
  simp [wpOpsS,go_sem,recoverD,hu,Tryz.ntmps41,Exit.thenS]
  apply wpS_seq
  apply wpS_region
  simp [wpOpsS,go_sem,Exit.thenS]
  refine wpS_cond (t:=false) (by simp [Act.eval]) ?_
  simp only [Bool.false_eq_true,if_false]
  refine wpS_of_wp (wp_skip ?_)
  cases c₀
  simp_all [bodyPostS,results,Tryz.results41]
theorem c41_fail {pb g h:Nat} {older:List PanicEntry} (z0:w.cell? ⟨g,0,none⟩=some (.int .i64 0)) (z1:w.cell? ⟨g,1,none⟩=some (.int .i64 0)) (z2:w.cell? ⟨g,2,none⟩=some (.int .i64 0)) (z3:w.cell? ⟨g,3,none⟩=some (.int .i64 0)) (z4:w.cell? ⟨g,4,none⟩=some (.int .i64 0)) (z5:w.cell? ⟨g,5,none⟩=some (.slice none 0 0)) (zf:∀ o,w.frozen? ⟨g,o,none⟩=false)
    (y0:((((((w.setCell ⟨g,0,none⟩ (.int .i64 0)).setCell ⟨g,1,none⟩ (.int .i64 0)).setCell ⟨g,2,none⟩ (.int .i64 0)).setCell ⟨g,3,none⟩ (.int .i64 0)).setCell ⟨g,4,none⟩ (.int .i64 0)).setCell ⟨g,5,none⟩ (.slice none 0 0)).cell? ⟨h,0,none⟩=some (.bool false)) (yf:((((((w.setCell ⟨g,0,none⟩ (.int .i64 0)).setCell ⟨g,1,none⟩ (.int .i64 0)).setCell ⟨g,2,none⟩ (.int .i64 0)).setCell ⟨g,3,none⟩ (.int .i64 0)).setCell ⟨g,4,none⟩ (.int .i64 0)).setCell ⟨g,5,none⟩ (.slice none 0 0)).frozen? ⟨h,0,none⟩=false) :
    CallsD Tryz.prog 41 #[.pointer (some ⟨g,0,none⟩),.pointer (some ⟨h,0,none⟩)] (.panicking ({ v:=.iface 127 (bp pb),recovered:=false } :: older)) w fun e u' w'=>u'=.panicking ({ v:=.iface 127 (bp pb),recovered:=true } :: older)∧e=.returned (.tuple #[]) ∧
      w'=((((((w.setCell ⟨g,0,none⟩ (.int .i64 0)).setCell ⟨g,1,none⟩ (.int .i64 0)).setCell ⟨g,2,none⟩ (.int .i64 0)).setCell ⟨g,3,none⟩ (.int .i64 0)).setCell ⟨g,4,none⟩ (.int .i64 0)).setCell ⟨g,5,none⟩ (.slice none 0 0)).setCell ⟨h,0,none⟩ (.bool false):=by
  have und:Tryz.prog.underlying 127=some (.pointer 215):=by kernel_rfl
  have ha:∀ w:World,(Instr.typeAssert (.iface 127 (bp pb)) 20 127 true).run Tryz.prog w=.ok (.tuple #[bp pb,.bool true]) w:=fun w=>run_assert_hit und
  refine callsD_of_wpS Tryz.func41 rfl fun c₀ cs hu => ?_
  apply wpS_seq
  apply wpS_region
  simp [wpOpsS,go_sem,recoverD,hu,Tryz.ntmps41,Exit.thenS]
  apply wpS_seq
  apply wpS_region
  simp [wpOpsS,go_sem,Exit.thenS]
  refine wpS_cond (t:=true) (by simp [Act.eval]) ?_
  simp only [if_true]
  apply wpS_seq
  apply wpS_seq
  apply wpS_region
  simp [wpOpsS,go_sem,Exit.thenS,ha]
  apply wpS_seq
  apply wpS_region
  simp [wpOpsS,go_sem,Exit.thenS]
  refine wpS_cond (t:=false) (by simp [Act.eval]) ?_
  simp only [Bool.false_eq_true,if_false]
  refine wpS_of_wp (wp_skip ?_)
  apply wpS_region
  simp [wpOpsS,go_sem,z0,z1,z2,z3,z4,z5,zf,y0,yf,bodyPostS,results,Tryz.results41]
theorem start32 {l pa ib g cap gt capt lx d0 lnd p:Nat} {ds:List Nat} {s:ByteArray} {cc:Value} {cur:List Value} (hd0:ds[0]? = some d0)
    (H:St B w0 (pts ib 126 [.slice (some ⟨gt,0,none⟩) (tx s).length capt,.int .i64 (p:Int)]::Osl (.slice (some ⟨gt,0,none⟩) (tx s).length capt) 21 1 (tx s).length ((tx s).map fun c:Nat=>Value.int .i32 (c:Int)) ::
      pts l 186 (Sim.cells ⟨at_,cc,g,lnd,cap,.iface 102 (bp lx),-1,1,0,pa,0⟩)::pts pa 234 (accC (-1) 0 (-1) (.pointer none))::pts g 117 cur::stars (ds.zipIdx.map (DfP kd bk decs))::r) w) :
    MSt kd bk out kindOf stop B N A w0 P l d0 pa ib capt (some ⟨gt,0,none⟩) (tx s) ⟨at_,cc,g,lnd,cap,.iface 102 (bp lx),-1,1,0,pa,0⟩ cur (dV kd bk decs 0) ((0:Nat):Int) (stars ((ds.zipIdx.map (DfP kd bk decs)).eraseIdx 0)::r) dsN p 1 0 w:=by
  have h1:St B w0 (ChP ib (some ⟨gt,0,none⟩) capt (tx s) p::_) w:=H.join
  have h2:St B w0 (SimP l ⟨at_,cc,g,lnd,cap,.iface 102 (bp lx),-1,1,0,pa,0⟩ cur::_) w:=((h1.pick 3).pick 2).join
  have hz:(ds.zipIdx)[0]? = some (d0,0):=by rw [List.getElem?_zipIdx,hd0]; rfl
  have h3:=St.takeMap (h2.pick 3) hz
  have h5:=((((h3.pick 1).pick 3).pick 4).pick 4).pick 4
  have h6:=DfaL0 (kd:=kd) (bk:=bk) (xf:=fun _=>0) (pf:=fun _=>0) (d:=d0) (ats:=dV kd bk decs 0) (dec:=((0:Nat):Int)) h5
  have p':∀ (x y z:List HP),(x++(y++z)).Perm (y++(x++z)):=fun x y z=>by
    rw [← List.append_assoc,← List.append_assoc]
    exact List.perm_append_comm.append_right z
  have h7:=h6.perm (p' _ [_,_,_] _)
  exact ⟨fun _=>0,fun _=>0,dm0,-1,0,-1,0,-1,.pointer none,dm0_ok,by simp [dsN],.inl ⟨rfl,rfl,rfl,h7⟩⟩
def Tk32 (res:Lx.Res) (p:Nat) (k st s5:Int) (b:Bool):Prop:=match res with
  | .tok tk=>b=true∧k=tk.kind∧st=(p:Int)∧s5=(tk.stop:Int)
  | .eof=>True
  | .fail=>b=false
def R32 (B:Nat) (w0:World) (res:Lx.Res) (p:Nat) (r:List HP) (e:Ending) (w:World):Prop:=∃ (k st s5 l5 c5:Int) (b:Bool),e=.returned (.tuple #[.agg #[.int .i64 k,.int .i64 st,.int .i64 s5,.int .i64 l5,.int .i64 c5,.slice none 0 0],.bool b])∧Tk32 res p k st s5 b∧St B w0 r w
set_option maxRecDepth 100000 in
set_option maxHeartbeats 8000000 in
theorem c32 (hR : NetR kd bk out ru kindOf B w0 N at_ nr) (hT : DecT kd bk B w0 N at_ decs) (hst : ∀ n, n < N → stop n = (kd n == 7)) (hE : Env out n N A P) (hd0 : ∀ tr ∈ out 0, Lx.Dep out n tr.to) (hout : 0 < (out 0).length)
    {s:ByteArray} (ht:∀ c ∈ tx s,c≤127) (hl:s.size≤60) {p:Nat} (hp:p≤s.size) (H:St B w0 r w) :
    Calls Tryz.prog 32 #[bp at_,.string s,.int .i64 0,.int .i64 (p:Int),.agg #[.map none,.int .i64 0]] w fun e w'=>R32 B w0 (Lx.match1 hN hS out n stop kindOf dsN ((tx s).drop p) p 1 0).2 p r e w':=by
  have hmf:∀ (fn:Fn) (first cap:Array Value) (w:World),(Instr.makeFunc fn first cap).run Tryz.prog w=.ok (.func fn first cap) w:=fun _ _ _ _=>rfl
  obtain ⟨g0,c0,hg0,hrow,hdr⟩:=hT.row
  have Z1:(w.alloc (ob 81 [.map none,.int .i64 0])).heap.size=w.heap.size+1:=Array.size_push _
  have Z2:((w.alloc (ob 81 [.map none,.int .i64 0])).alloc (ob 74 tk0)).heap.size=w.heap.size+1+1:=by rw [show ((w.alloc (ob 81 [.map none,.int .i64 0])).alloc (ob 74 tk0)).heap.size=(w.alloc (ob 81 [.map none,.int .i64 0])).heap.size+1 from Array.size_push _,Z1]
  have Z3:(((w.alloc (ob 81 [.map none,.int .i64 0])).alloc (ob 74 tk0)).alloc (ob 4 [.bool false])).heap.size=w.heap.size+1+1+1:=by rw [show (((w.alloc (ob 81 [.map none,.int .i64 0])).alloc (ob 74 tk0)).alloc (ob 4 [.bool false])).heap.size=((w.alloc (ob 81 [.map none,.int .i64 0])).alloc (ob 74 tk0)).heap.size+1 from Array.size_push _,Z2]
  have H4:=(((H.alloc (ob 81 [.map none,.int .i64 0])).alloc (ob 74 tk0)).alloc (ob 4 [.bool false])).alloc (ob 104 lxC)
  rw [Z3,Z2,Z1] at H4
  have a0:((((w.alloc (.cells #[.map none,.int .i64 0] 81)).alloc (.cells #[.int .i64 0,.int .i64 0,.int .i64 0,.int .i64 0,.int .i64 0,.slice none 0 0] 74)).alloc (.cells #[.bool false] 4)).alloc (.cells #[.map none,.int .i64 0,.slice none 0 0] 104)).cell? ⟨at_,0,none⟩=some (.slice (some ⟨g0,0,none⟩) decs.length c0):=(H4.old.1 at_ 0 hT.atlt).trans hrow
  have HH:=Lib.hid H4
  have HR:=Lib.hid (And.intro hR (And.intro hT (And.intro hst (And.intro hE (And.intro hd0 (And.intro hout (And.intro hp (And.intro hg0 hdr))))))))
  have Ht:=Lib.hid (And.intro ht hl)
  clear hR hT hst hE hd0 hout hp ht hl H H4 hrow hdr hg0 Z1 Z2 Z3
  go_enter_defers Tryz.func32,Tryz.ntmps32
  go_wp2_with fail
  go_loopw [13,27] (DecRel kd bk B w0 (pto (w.heap.size+1+1+1) (ob 104 lxC)::pto (w.heap.size+1+1) (ob 4 [.bool false])::pto (w.heap.size+1) (ob 74 tk0)::r) decs) (fun _ i _=>decs.length - (intOf i).toNat)
  case atStart =>
    refine ⟨[],none,0,rfl,rfl,Nat.zero_le _,?_⟩
    have h1:=HH.out.pick 3
    exact (h1.drop.nilStars).ownNil 117 1
  case round =>
    obtain ⟨ds,a,c,rfl,rfl,hle,H5⟩:=hrel
    by_cases hlt:ds.length<decs.length
    · have hk0:(0:Int)≤(ds.length:Int):=Int.natCast_nonneg _
      have hk1:(ds.length:Int)<(decs.length:Int):=by omega
      obtain ⟨x,hx⟩:∃ x,decs[ds.length]? = some x:=⟨_,List.getElem?_eq_getElem hlt⟩
      obtain ⟨b1,b2,b3,b4,b5⟩:=HR.out.2.2.2.2.2.2.2.2 _ _ hx
      have c1:wr.cell? ⟨g0,ds.length,none⟩=some (.iface (ty (kd x)) (bp (bk x))):=(H5.old.1 g0 _ HR.out.2.2.2.2.2.2.2.1).trans b4
      have c10:kd x=10→wr.cell? ⟨bk x,10,none⟩=some (.bool false):=fun h=>(H5.old.1 _ _ b3).trans (b5 h)
      have hdv:dV kd bk decs ds.length=.iface (ty (kd x)) (bp (bk x)):=by unfold dV; rw [hx]
      have h38:=c38 (dec:=(ds.length:Int)) b2 c10 H5
      have H38:=Lib.hid h38
      have Hw:=Lib.hid (wrapS hlt (by have:=HR.out.2.1.len; omega))
      have Hlt:=Lib.hid (And.intro hlt (And.intro hdv (And.intro hx HR.out.2.1.len)))
      have hdl:ds.length<1099511627776:=by have:=HR.out.2.1.len; omega
      clear h38 H5 hdv hx b1 b2 b3 b4 b5 c10 hle
      go_wp2_with (first
        | (at_builtin; go_must (refine wpList_append1_st rfl _ _ rfl sl105 HA.out rfl 1 rfl rfl rfl (by simp [Value.oneCell']) (by simp only [maxLen]; omega) (by omega) ?_)
           intro a' c' w7 H6)
        | (go_at_call 38; refine H38.out.mono ?_; rintro e w6 ⟨d,rfl,h6⟩
           have HA:=Lib.hid (((h6.alloc (ob 117 [bp d])).pick 2).pick 1)
           clear h6))
      first | rw [Hw.out] | rw [show ((ds.length:Int)+1)=((ds.length+1:Nat):Int) from by omega]
      refine ⟨DecRel.next (d:=d) (by rw [Hlt.out.2.1]; exact H6) Hlt.out.1,measS Hlt.out.1⟩
    · have hk1 : ¬ (ds.length:Int)<(decs.length:Int):=by omega
      have hdl:ds.length=decs.length:=by omega
      have hne:=HR.out.2.1.ne
      obtain ⟨s0,hs0⟩:∃ x,decs[0]? = some x:=⟨_,List.getElem?_eq_getElem hne⟩
      obtain ⟨d0,hd0⟩:∃ x,ds[0]? = some x:=⟨_,List.getElem?_eq_getElem (by omega)⟩
      have H6:=H5
      obtain ⟨g,cap,cur,ha,hcap,hcl,htk,H7⟩:∃ g cap cur,a=some ⟨g,0,none⟩∧cap=c∧cur.length=cap∧cur.take ds.length=ds.map bp∧St B w0 (pts g 117 cur::stars (ds.zipIdx.map (DfP kd bk decs))::(pto (w.heap.size+1+1+1) (ob 104 lxC)::pto (w.heap.size+1+1) (ob 4 [.bool false])::pto (w.heap.size+1) (ob 74 tk0)::r)) wr:=by
        rcases St.oslOpen H5 with ⟨e,h0⟩ | ⟨g,cap,cur,e,h2,h3,h4⟩
        · omega
        · injection e with e1 e2 e3
          rw [Nat.mul_one] at h2 h3
          exact ⟨g,cap,cur,e1,e3.symm,h2,h3,h4⟩
      subst ha hcap
      have hcur0:cur[0]? = some (bp d0):=by
        have h1:(cur.take ds.length)[0]? = some (bp d0):=by rw [htk,List.getElem?_map,hd0]; rfl
        rwa [List.getElem?_take_of_lt (by omega)] at h1
      have HH7:=Lib.hid H7
      have hds:ds[0]? = some d0∧(ds.length=decs.length∧decs.length=decs.length)∧∀ (i x:Nat),ds[i]? = some x→cur[i]? = some (bp x)   := ⟨hd0,⟨hdl,rfl⟩,fun i x hx=>by
        have hi:i<ds.length:=(List.getElem?_eq_some_iff.1 hx).1
        have h1:(cur.take ds.length)[i]? = some (bp x):=by rw [htk,List.getElem?_map,hx]; rfl
        rwa [List.getElem?_take_of_lt hi] at h1⟩
      have HHc:=Lib.hid (And.intro hcl (And.intro hcur0 (And.intro hdl (And.intro hd0 (And.intro hs0 hds)))))
      clear H5 H6 H7 hcl htk hcur0 hd0 hs0 hds
      go_wp2_with (first
        | (go_at_call 39; refine (c39 h40).mono ?_; rintro e w2 ⟨l,pa,rfl,h39⟩
           obtain ⟨gt,capt,w3,hconv,h41⟩:=run_runes s Ht.out.1 (by have:=Ht.out.2; omega) h39
           have h42:=h41.alloc (ob 126 [.slice (some ⟨gt,0,none⟩) (tx s).length capt,.int .i64 (p:Int)])
           have HH8:=Lib.hid h42
           clear h39 h40 h41 h42)
        | (go_at_call 40; refine (c40 HH7.out).mono ?_; rintro e w1 ⟨cc,rfl,h40⟩))
      have HH9:=start32 (out:=out) (kindOf:=kindOf) (stop:=stop) (N:=N) (A:=A) (P:=P) HHc.out.2.2.2.1 HH8.out
      generalize hσ : (⟨at_,bp cc,g,decs.length,cap,.iface 102 (bp (w.heap.size+1+1+1)),-1,1,0,pa,0⟩:Sim) = σ at HH9
      have hlt:=tx_len s
      have hl6:=Ht.out.2
      have hp6:=HR.out.2.2.2.2.2.2.1
      have h42:=c42 (ln:=1) (col:=0) (pos:=p) HR.out.1 HR.out.2.2.1 HR.out.2.2.2.1 HR.out.2.2.2.2.1 HR.out.2.2.2.2.2.1 Ht.out.1 (by omega) (by rw [← hσ]) (by rw [← hσ]; exact HR.out.2.1.ne) HHc.out.2.1 (by rw [← hσ]) (by omega) (by omega) (by omega) (by simp [dsN]; omega) (by simp [dsN]; omega) HH9
      have H42:=Lib.hid h42
      clear h42 hlt hl6 hp6 HH9
      go_at_call 42
      refine H42.out.mono ?_
      intro e w5 hM5
      have hb:=Lx.match1_b (h:=hN) (hs:=hS) (out:=out) (n:=n) (stop:=stop) (kindOf:=kindOf) dsN ((tx s).drop p) p 1 0
      have hsz:=True.intro
      have hkk:=True.intro
      rcases hm:Lx.match1 hN hS out n stop kindOf dsN ((tx s).drop p) p 1 0 with ⟨D',res⟩
      rw [hm] at hM5 hb
      have Hm:=Lib.hid hm
      clear hm
      cases res with
        | tok tk =>
          obtain ⟨tk1,tk2,tk3,tk4,tk5⟩:=tk
          obtain ⟨hspt,rfl,hM6⟩:=hM5
          have hM6:MSt kd bk out kindOf stop B N A w0 P l d0 pa w3.heap.size capt (some ⟨gt,0,none⟩) (tx s) σ cur (dV kd bk decs 0) ((0:Nat):Int) (stars ((ds.zipIdx.map (DfP kd bk decs)).eraseIdx 0)::pto (w.heap.size+1+1+1) (ob 104 lxC)::pto (w.heap.size+1+1) (ob 4 [.bool false])::pto (w.heap.size+1) (ob 74 tk0)::r) D' tk3 tk4 tk5 w5:=hM6
          obtain ⟨n1,n2,n3⟩:=hM6.cells
          have H5:=hM6.any
          have kx:w5.cell? ⟨w.heap.size+1+1+1,2,none⟩=some (.slice none 0 0):=(H5.pick 1).cells.1 2
          have y0:w5.cell? ⟨w.heap.size+1+1,0,none⟩=some (.bool false):=(H5.pick 2).cells.1 0
          have yf:=(H5.pick 2).cells.2
          have z0:w5.cell? ⟨w.heap.size+1,0,none⟩=some (.int .i64 0):=(H5.pick 3).cells.1 0
          have z1:w5.cell? ⟨w.heap.size+1,1,none⟩=some (.int .i64 0):=(H5.pick 3).cells.1 1
          have z2:w5.cell? ⟨w.heap.size+1,2,none⟩=some (.int .i64 0):=(H5.pick 3).cells.1 2
          have z3:w5.cell? ⟨w.heap.size+1,3,none⟩=some (.int .i64 0):=(H5.pick 3).cells.1 3
          have z4:w5.cell? ⟨w.heap.size+1,4,none⟩=some (.int .i64 0):=(H5.pick 3).cells.1 4
          have z5:w5.cell? ⟨w.heap.size+1,5,none⟩=some (.slice none 0 0):=(H5.pick 3).cells.1 5
          have zf:=(H5.pick 3).cells.2
          have d1:w5.drew.cell? ⟨w3.heap.size,1,none⟩=some (.int .i64 (tk3:Int)):=n1
          have d2:w5.drew.cell? ⟨l,7,none⟩=some (.int .i64 (tk4:Int)):=n2
          have d3:w5.drew.cell? ⟨l,8,none⟩=some (.int .i64 (tk5:Int)):=n3
          have H6:=((((((H5.pick 3).setCell (off:=0) (.int .i64 tk1)).setCell (off:=1) (.int .i64 (p:Int))).setCell (off:=2) (.int .i64 (tk3:Int))).setCell (off:=3) (.int .i64 (tk4:Int))).setCell (off:=4) (.int .i64 (tk5:Int))).setCell (off:=5) (.slice none 0 0)
          have x1:=(H6.pick 3).cells.1 0
          have x1f:=(H6.pick 3).cells.2 0
          have H7:=((H6.pick 3).setCell (off:=0) (.bool true)).drew
          have q0:=(H7.pick 1).cells.1 0
          have q1:=(H7.pick 1).cells.1 1
          have q2:=(H7.pick 1).cells.1 2
          have q3:=(H7.pick 1).cells.1 3
          have q4:=(H7.pick 1).cells.1 4
          have q5:=(H7.pick 1).cells.1 5
          have q6:=H7.cells.1 0
          simp only [tk0,List.set_cons_zero,List.set_cons_succ,List.getElem?_cons_zero,List.getElem?_cons_succ] at q0 q1 q2 q3 q4 q5 q6 x1
          have H8:=Lib.hid (((((H7.pick 3).drop.pick 2).drop.pick 1).drop).drop)
          have Hm2:=Lib.hid (And.intro Hm hkk)
          clear hM6 H5 H6 H7 hb hsz hkk
          go_wp2_with fail
          refine wp_nrm ?_
          go_region_law
              (first
                | (go_simp; go_at_call 43; refine (c43 _ _ _ (by first | exact n1 | exact d1)).mono ?_; rintro e w' ⟨rfl,rfl⟩)
                | (go_simp; go_at_call 44; refine (c44 _ _ _ (by first | exact n2 | exact d2)).mono ?_; rintro e w' ⟨rfl,rfl⟩)
                | (go_simp; go_at_call 45; refine (c45 _ _ _ (by first | exact n3 | exact d3)).mono ?_; rintro e w' ⟨rfl,rfl⟩))
          all_goals rw [nrm_normal]
          all_goals go_wp2_with fail
          all_goals
            refine leaves_cons (f:=41) (args:=#[.pointer (some ⟨w.heap.size+1,0,none⟩),.pointer (some ⟨w.heap.size+1+1,0,none⟩)]) (by simp) (by simp [go_sem]) ?_
            refine (c41_idle _ _).mono ?_
            rintro e u' w'' ⟨rfl,rfl,rfl⟩
            refine ⟨.tuple #[.agg #[.int .i64 tk1,.int .i64 (p:Int),.int .i64 (tk3:Int),.int .i64 (tk4:Int),.int .i64 (tk5:Int),.slice none 0 0],.bool true],?_,?_⟩
            · clear H8 Hm2
              generalize (World.drew _)=W at q0 q1 q2 q3 q4 q5 q6 ⊢
              simp [results,Tryz.results32,go_sem,q0,q1,q2,q3,q4,q5,q6]
            · rw [Hm2.out.1.out]; exact ⟨tk1,_,_,_,_,true,rfl,⟨rfl,rfl,rfl,rfl⟩,H8.out⟩
        | eof =>
          obtain ⟨rfl,ln5,col5,hM6⟩:=hM5
          have hM6:MSt kd bk out kindOf stop B N A w0 P l d0 pa w3.heap.size capt (some ⟨gt,0,none⟩) (tx s) σ cur (dV kd bk decs 0) ((0:Nat):Int) (stars ((ds.zipIdx.map (DfP kd bk decs)).eraseIdx 0)::pto (w.heap.size+1+1+1) (ob 104 lxC)::pto (w.heap.size+1+1) (ob 4 [.bool false])::pto (w.heap.size+1) (ob 74 tk0)::r) D' p ln5 col5 w5:=hM6
          obtain ⟨n1,n2,n3⟩:=hM6.cells
          have H5:=hM6.any
          have kx:w5.cell? ⟨w.heap.size+1+1+1,2,none⟩=some (.slice none 0 0):=(H5.pick 1).cells.1 2
          have y0:w5.cell? ⟨w.heap.size+1+1,0,none⟩=some (.bool false):=(H5.pick 2).cells.1 0
          have yf:=(H5.pick 2).cells.2
          have z0:w5.cell? ⟨w.heap.size+1,0,none⟩=some (.int .i64 0):=(H5.pick 3).cells.1 0
          have z1:w5.cell? ⟨w.heap.size+1,1,none⟩=some (.int .i64 0):=(H5.pick 3).cells.1 1
          have z2:w5.cell? ⟨w.heap.size+1,2,none⟩=some (.int .i64 0):=(H5.pick 3).cells.1 2
          have z3:w5.cell? ⟨w.heap.size+1,3,none⟩=some (.int .i64 0):=(H5.pick 3).cells.1 3
          have z4:w5.cell? ⟨w.heap.size+1,4,none⟩=some (.int .i64 0):=(H5.pick 3).cells.1 4
          have z5:w5.cell? ⟨w.heap.size+1,5,none⟩=some (.slice none 0 0):=(H5.pick 3).cells.1 5
          have zf:=(H5.pick 3).cells.2
          have d1:w5.drew.cell? ⟨w3.heap.size,1,none⟩=some (.int .i64 (p:Int)):=n1
          have d2:w5.drew.cell? ⟨l,7,none⟩=some (.int .i64 ln5):=n2
          have d3:w5.drew.cell? ⟨l,8,none⟩=some (.int .i64 col5):=n3
          have H6:=((((((H5.pick 3).setCell (off:=0) (.int .i64 (-1))).setCell (off:=1) (.int .i64 (p:Int))).setCell (off:=2) (.int .i64 (p:Int))).setCell (off:=3) (.int .i64 ln5)).setCell (off:=4) (.int .i64 col5)).setCell (off:=5) (.slice none 0 0)
          have x1:=(H6.pick 3).cells.1 0
          have x1f:=(H6.pick 3).cells.2 0
          have H7:=((H6.pick 3).setCell (off:=0) (.bool true)).drew
          have q0:=(H7.pick 1).cells.1 0
          have q1:=(H7.pick 1).cells.1 1
          have q2:=(H7.pick 1).cells.1 2
          have q3:=(H7.pick 1).cells.1 3
          have q4:=(H7.pick 1).cells.1 4
          have q5:=(H7.pick 1).cells.1 5
          have q6:=H7.cells.1 0
          simp only [tk0,List.set_cons_zero,List.set_cons_succ,List.getElem?_cons_zero,List.getElem?_cons_succ] at q0 q1 q2 q3 q4 q5 q6 x1
          have H8:=Lib.hid (((((H7.pick 3).drop.pick 2).drop.pick 1).drop).drop)
          have Hm2:=Lib.hid (And.intro Hm hkk)
          clear hM6 H5 H6 H7 hb hsz hkk
          go_wp2_with fail
          refine wp_nrm ?_
          go_region_law
              (first
                | (go_simp; go_at_call 43; refine (c43 _ _ _ (by first | exact n1 | exact d1)).mono ?_; rintro e w' ⟨rfl,rfl⟩)
                | (go_simp; go_at_call 44; refine (c44 _ _ _ (by first | exact n2 | exact d2)).mono ?_; rintro e w' ⟨rfl,rfl⟩)
                | (go_simp; go_at_call 45; refine (c45 _ _ _ (by first | exact n3 | exact d3)).mono ?_; rintro e w' ⟨rfl,rfl⟩))
          all_goals rw [nrm_normal]
          all_goals go_wp2_with fail
          all_goals
            refine leaves_cons (f:=41) (args:=#[.pointer (some ⟨w.heap.size+1,0,none⟩),.pointer (some ⟨w.heap.size+1+1,0,none⟩)]) (by simp) (by simp [go_sem]) ?_
            refine (c41_idle _ _).mono ?_
            rintro e u' w'' ⟨rfl,rfl,rfl⟩
            refine ⟨.tuple #[.agg #[.int .i64 (-1),.int .i64 (p:Int),.int .i64 (p:Int),.int .i64 ln5,.int .i64 col5,.slice none 0 0],.bool true],?_,?_⟩
            · clear H8 Hm2
              generalize (World.drew _)=W at q0 q1 q2 q3 q4 q5 q6 ⊢
              simp [results,Tryz.results32,go_sem,q0,q1,q2,q3,q4,q5,q6]
            · rw [Hm2.out.1.out]; exact ⟨_,_,_,_,_,true,rfl,trivial,H8.out⟩
        | fail =>
          obtain ⟨pb,z,p5,ln5,col5,rfl,hM6⟩:=hM5
          have hM6:MSt kd bk out kindOf stop B N A w0 P l d0 pa w3.heap.size capt (some ⟨gt,0,none⟩) (tx s) σ cur (dV kd bk decs 0) ((0:Nat):Int) (pts pb 215 [.int .i64 (p:Int),z]::stars ((ds.zipIdx.map (DfP kd bk decs)).eraseIdx 0)::pto (w.heap.size+1+1+1) (ob 104 lxC)::pto (w.heap.size+1+1) (ob 4 [.bool false])::pto (w.heap.size+1) (ob 74 tk0)::r) D' p5 ln5 col5 w5:=hM6
          have H5:=hM6.any
          have z0:w5.cell? ⟨w.heap.size+1,0,none⟩=some (.int .i64 0):=(H5.pick 4).cells.1 0
          have z1:w5.cell? ⟨w.heap.size+1,1,none⟩=some (.int .i64 0):=(H5.pick 4).cells.1 1
          have z2:w5.cell? ⟨w.heap.size+1,2,none⟩=some (.int .i64 0):=(H5.pick 4).cells.1 2
          have z3:w5.cell? ⟨w.heap.size+1,3,none⟩=some (.int .i64 0):=(H5.pick 4).cells.1 3
          have z4:w5.cell? ⟨w.heap.size+1,4,none⟩=some (.int .i64 0):=(H5.pick 4).cells.1 4
          have z5:w5.cell? ⟨w.heap.size+1,5,none⟩=some (.slice none 0 0):=(H5.pick 4).cells.1 5
          have zf:=(H5.pick 4).cells.2
          have H6:=((((((H5.pick 4).setCell (off:=0) (.int .i64 0)).setCell (off:=1) (.int .i64 0)).setCell (off:=2) (.int .i64 0)).setCell (off:=3) (.int .i64 0)).setCell (off:=4) (.int .i64 0)).setCell (off:=5) (.slice none 0 0)
          have x1:=(H6.pick 4).cells.1 0
          have x1f:=(H6.pick 4).cells.2 0
          have H7:=((H6.pick 4).setCell (off:=0) (.bool false))
          have q0:=(H7.pick 1).cells.1 0
          have q1:=(H7.pick 1).cells.1 1
          have q2:=(H7.pick 1).cells.1 2
          have q3:=(H7.pick 1).cells.1 3
          have q4:=(H7.pick 1).cells.1 4
          have q5:=(H7.pick 1).cells.1 5
          have q6:=H7.cells.1 0
          simp only [tk0,List.set_cons_zero,List.set_cons_succ,List.getElem?_cons_zero,List.getElem?_cons_succ] at q0 q1 q2 q3 q4 q5 q6 x1
          refine leaves_cons (f:=41) (args:=#[.pointer (some ⟨w.heap.size+1,0,none⟩),.pointer (some ⟨w.heap.size+1+1,0,none⟩)]) (by simp) (by simp [go_sem]) ?_
          refine (c41_fail z0 z1 z2 z3 z4 z5 zf x1 x1f).mono ?_
          rintro e u' w'' ⟨rfl,rfl,rfl⟩
          refine ⟨.tuple #[.agg #[.int .i64 0,.int .i64 0,.int .i64 0,.int .i64 0,.int .i64 0,.slice none 0 0],.bool false],?_,?_⟩
          · generalize (World.setCell _ _ _)=W at q0 q1 q2 q3 q4 q5 q6 ⊢
            simp [results,Tryz.results32,go_sem,q0,q1,q2,q3,q4,q5,q6]
          · rw [Hm.out]; exact ⟨_,_,_,_,_,false,rfl,rfl,((((H7.pick 4).drop.pick 3).drop.pick 2).drop.pick 1).drop.drop⟩
end Go.Proofs.YtbcngfgemjdllaaGreatDoor
end
section
namespace Go.Proofs.YtbcngfgemjdllaaGreatDoor
open Go.RowKit Go.Own
variable {rules:List Lx.Ex} {n at_:Nat} {bk:Nat→Nat} {w w0 w1:World} {r:List HP}
theorem c32r (hG:GdR rules n) (hB:Built rules at_ bk w) {s:ByteArray} (ht:∀ c ∈ tx s,c≤127) (hl:s.size≤60) {p:Nat} (hp:p≤s.size) (H:St w.heap.size w r w1) :
    Calls Tryz.prog 32 #[bp at_,.string s,.int .i64 0,.int .i64 (p:Int),.agg #[.map none,.int .i64 0]] w1 fun e w'=>R32 w.heap.size w (Lx.match1 hN hS (Lx.nOut rules) n (Lx.nStop rules) (Lx.nKind rules) dsN ((tx s).drop p) p 1 0).2 p r e w' :=
  c32 hB.net hB.dec (fun _ _=>rfl) (env_of hG.good hG.small hG.pos hG.dep) (fun tr h=>hG.dep _ (Lx.nTo h).1) (by rw [Lx.nOut_zero,List.length_map,Lx.cStart_len]; exact hG.pos) ht hl hp H
def R20 (w:World) (res:Lx.Res) (p:Nat) (e:Ending) (w':World):Prop:=∃ (k st s5 l5 c5:Int) (b:Bool),e=.returned (.tuple #[.agg #[.int .i64 k,.int .i64 st,.int .i64 s5,.int .i64 l5,.int .i64 c5],.bool b])∧Tk32 res p k st s5 b∧Below w.heap.size w w'
set_option maxRecDepth 100000 in
set_option maxHeartbeats 4000000 in
theorem c20 (hG:GdR rules n) {V:NV} {ru:Nat} (hN0:NetV w V (cmK rules rules.length ru)) {s:ByteArray} (ht:∀ c ∈ tx s,c≤127) (hl:s.size≤60) {p:Nat} (hp:p≤s.size) :
    Calls Tryz.prog 20 #[.agg (V.cells (cmK rules rules.length ru)).toArray,.string s,.int .i64 (p:Int)] w (R20 w (Lx.match1 hN hS (Lx.nOut rules) n (Lx.nStop rules) (Lx.nKind rules) dsN ((tx s).drop p) p 1 0).2 p):=by
  generalize hres:(Lx.match1 hN hS (Lx.nOut rules) n (Lx.nStop rules) (Lx.nKind rules) dsN ((tx s).drop p) p 1 0).2=res
  have Hres:=Lib.hid hres
  clear hres
  obtain ⟨S,hS⟩:∃ S,S=cmK rules rules.length ru:=⟨_,rfl⟩
  have H0:=((St.nil w).alloc (ob 48 (V.cells S))).alloc (ob 41 [.int .i64 0,.int .i64 0,.int .i64 0,.int .i64 0,.int .i64 0])
  rw [show (w.alloc (ob 48 (V.cells S))).heap.size=w.heap.size+1 from Array.size_push _] at H0
  have h33:=c33 (w:=(w.alloc (ob 48 (V.cells S))).alloc (ob 41 [.int .i64 0,.int .i64 0,.int .i64 0,.int .i64 0,.int .i64 0])) (ru:=ru) hG.good hG.pos hG.len hG.size (hN0.mono H0.below)
  rw [← hS] at h33 ⊢
  have H33:=Lib.hid h33
  have HG:=Lib.hid (And.intro hG (And.intro ht (And.intro hl hp)))
  have HH:=Lib.hid H0
  clear h33 hG hN0 ht hl hp hS H0
  unfold NV.cells
  go_enter Tryz.func20,Tryz.ntmps20
  go_wp2_with fail
  go_at_call 33
  refine H33.out.mono ?_
  rintro e w1 ⟨at_,bk,rfl,hB,hb⟩
  have h32:=c32r HG.out.1 hB HG.out.2.1 HG.out.2.2.1 HG.out.2.2.2 (St.nil w1)
  rw [Hres.out] at h32
  have H32:=Lib.hid h32
  have HH1:=Lib.hid (HH.out.over_base (St.ofBelow hb))
  clear hB hb HH h32
  go_wp2_with fail
  go_at_call 32
  refine H32.out.mono ?_
  rintro e w2 ⟨k,st,s5,l5,c5,b,rfl,hT,h2⟩
  have H3:St w.heap.size w (pts (w.heap.size+1) 41 [.int .i64 0,.int .i64 0,.int .i64 0,.int .i64 0,.int .i64 0]::_) w2:=HH1.out.over_base h2
  have H4:St w.heap.size w (pto w2.heap.size (ob 74 [.int .i64 k,.int .i64 st,.int .i64 s5,.int .i64 l5,.int .i64 c5,.slice none 0 0])::pts (w.heap.size+1) 41 [.int .i64 0,.int .i64 0,.int .i64 0,.int .i64 0,.int .i64 0]::_) (w2.alloc (.cells #[.int .i64 k,.int .i64 st,.int .i64 s5,.int .i64 l5,.int .i64 c5,.slice none 0 0] 74)):=H3.alloc (ob 74 [.int .i64 k,.int .i64 st,.int .i64 s5,.int .i64 l5,.int .i64 c5,.slice none 0 0])
  have z0:=(H4.pick 1).cells.1 0
  have z1:=(H4.pick 1).cells.1 1
  have z2:=(H4.pick 1).cells.1 2
  have z3:=(H4.pick 1).cells.1 3
  have z4:=(H4.pick 1).cells.1 4
  have zf:=(H4.pick 1).cells.2
  have H6:=(((((H4.pick 1).setCell (off:=0) (.int .i64 k)).setCell (off:=1) (.int .i64 st)).setCell (off:=2) (.int .i64 s5)).setCell (off:=3) (.int .i64 l5)).setCell (off:=4) (.int .i64 c5)
  have q0:=H6.cells.1 0
  have q1:=H6.cells.1 1
  have q2:=H6.cells.1 2
  have q3:=H6.cells.1 3
  have q4:=H6.cells.1 4
  simp only [List.set_cons_zero,List.set_cons_succ,List.getElem?_cons_zero,List.getElem?_cons_succ] at q0 q1 q2 q3 q4 z0 z1 z2 z3 z4
  have HE:=Lib.hid (And.intro hT H6.below)
  clear hT h2 H3 H4 H6 HH1 H32 H33
  go_wp2_with fail
  refine bodyPost_ret (v:=.tuple #[.agg #[.int .i64 k,.int .i64 st,.int .i64 s5,.int .i64 l5,.int .i64 c5],.bool b]) ?_ rfl ⟨k,st,s5,l5,c5,b,rfl,HE.out.1,HE.out.2⟩
  clear HE
  generalize (World.setCell _ _ _)=W at q0 q1 q2 q3 q4 ⊢
  simp [results,Tryz.results20,go_sem,q0,q1,q2,q3,q4]
end Go.Proofs.YtbcngfgemjdllaaGreatDoor
end
section
namespace Go.Proofs.YtbcngfgemjdllaaGreatDoor
open Go.RowKit Go.Own
variable {B:Nat} {w0 w:World} {r:List HP}
def LwQ (w:World) (e:Ending) (w':World):Prop:=e=.returned (.bool true)∧Below w.heap.size w w'
theorem gd_of {rs:List Lx.Ex} (h:goodB rs=true):∃ n,GdR rs n:=by
  simp only [goodB,okE,Bool.and_eq_true,List.all_eq_true,decide_eq_true_eq,Bool.not_eq_true'] at h
  obtain ⟨⟨⟨h1,h2⟩,h3⟩,h4⟩:=h
  have hg:Lx.GoodR rs:=fun e he=>⟨⟨5,(h1 e he).1.1⟩,(h1 e he).1.2,(h1 e he).2⟩
  obtain ⟨n,hn⟩:=Lx.nDep hg
  exact ⟨n,hg,(Lx.small_of h3 (fun e he=>⟨(h1 e he).1.1,(h1 e he).2⟩) h4).1,by omega,by omega,by omega,hn⟩
theorem tx_of {s:ByteArray} (h:textB (tx s)=true):(∀ c ∈ tx s,c≤127)∧s.size≤60:=by
  simp only [textB,Bool.and_eq_true,List.all_eq_true,decide_eq_true_eq,tx_len] at h
  exact h
theorem tkV_q5 {ts:List Lx.Tok} : ts.flatMap tkV=(ts.map t5).flatMap q5:=by rw [List.flatMap_map]; rfl
theorem c16x {rs:List Lx.Ex} {sa:Option Addr} {c:Nat} {s:ByteArray} (hl:rs.length≤1000) (hg:Lx.GoodR rs) (hS:ExS w rs sa 0) (hs:s.size<1000000) :
    Calls Tryz.prog 16 #[.slice sa rs.length c,.string s] w fun e' w'=>∃ (X:List T5) (f:Int) (sa':Option Addr) (c':Nat),e'=.returned (.tuple #[.slice sa' X.length c',.int .i64 f])∧(∃ ts,X=ts.map t5∧Lx.AllR rs (tx s) 0 ts f)∧X.length≤s.size∧RowAt w' sa' (X.flatMap q5)∧Below w.heap.size w w':=by
  refine (c16 hl hg hS hs).mono ?_
  rintro e w5 ⟨ts,f,sa2,c2,rfl,hall,htl,h16⟩
  refine ⟨ts.map t5,f,sa2,c2,by rw [List.length_map],⟨ts,rfl,hall⟩,by rw [List.length_map]; exact htl,?_,h16.below⟩
  have hrow:=RowAt.of h16
  rwa [tkV_q5] at hrow
theorem c15x {rules:List Lx.Ex} {n:Nat} (hG:GdR rules n) {sa:Option Addr} {c0:Nat} (hE:ExS w rules sa 0) {s:ByteArray} (ht:∀ c ∈ tx s,c≤127) (hl:s.size≤60) :
    Calls Tryz.prog 15 #[.slice sa rules.length c0,.string s] w fun e w'=>∃ (X:List T5) (f:Int) (a:Option Addr) (c:Nat),e=.returned (.tuple #[.slice a X.length c,.int .i64 f])∧(X=TK rules n (tx s)∧f=(LX rules n (tx s)).2.1)∧X.length≤62∧RowAt w' a (X.flatMap q5)∧Below w.heap.size w w':=by
  have hta:=tx_len s
  refine (c15 hG hE ht hl).mono ?_
  rintro e w5 ⟨a,c,rfl,hrow,hb⟩
  refine ⟨_,_,a,c,rfl,⟨rfl,rfl⟩,?_,hrow,hb⟩
  unfold TK LX
  rw [List.length_map]
  have h1:=List.length_filter_le (fun tk:Lx.Tok=>tk.kind != -1) (Lx.lexF hN hS (Lx.nOut rules) n (Lx.nStop rules) (Lx.nKind rules) (tx s) ((tx s).length+1) dsN 0 1 0).1
  have h2:=lexF_len (h:=hN) (hs:=hS) (out:=Lx.nOut rules) (n:=n) (stop:=Lx.nStop rules) (kindOf:=Lx.nKind rules) (t:=tx s) ((tx s).length+1) dsN 0 1 0
  unfold Lx.noEnd
  omega
end Go.Proofs.YtbcngfgemjdllaaGreatDoor
end
section
namespace Go.Proofs.YtbcngfgemjdllaaGreatDoor
open Go.RowKit Go.Own
variable {B:Nat} {w0 w:World} {r:List HP}
theorem tx_extract (s:ByteArray) (p:Nat):tx (s.extract p s.size)=(tx s).drop p:=by
  have h:(s.extract p s.size).data.toList=s.data.toList.drop p:=by
    rw [ByteArray.data_extract,Array.toList_extract]
    have h2:s.data.toList.length=s.size:=rfl
    simp only [List.extract]
    rw [← h2]
    exact List.take_of_length_le (by rw [List.length_drop]; exact Nat.le_refl _)
  unfold tx
  rw [h,List.map_drop]
theorem ap_first {rules:List Lx.Ex} {n:Nat} {t:List Nat} (h:Lx.AP hN hS (LX rules n t).2.2.asked):Lx.AP hN hS (Lx.match1 hN hS (Lx.nOut rules) n (Lx.nStop rules) (Lx.nKind rules) dsN t 0 1 0).1.asked:=by
  unfold LX at h
  rcases hm:Lx.match1 hN hS (Lx.nOut rules) n (Lx.nStop rules) (Lx.nKind rules) dsN t 0 1 0 with ⟨D',res⟩
  have hm':Lx.match1 hN hS (Lx.nOut rules) n (Lx.nStop rules) (Lx.nKind rules) dsN (t.drop 0) 0 1 0=(D',res):=by rw [List.drop_zero]; exact hm
  cases res with
  | tok tk =>
    by_cases he:tk.stop=0
    · rw [lexF_stop hm' he] at h; exact h
    · rw [lexF_tok hm' he] at h; exact (Lx.lexF_ext _ _ _ _ _).ap h
  | eof=>rw [lexF_eof hm'] at h; exact h
  | fail=>rw [lexF_fail hm'] at h; exact h
def M9 (res:Lx.Res) (lg:Int × Nat):Prop:=match res with
  | .tok tk=>0<lg.1∧tk.kind=lg.1∧tk.stop=lg.2
  | .eof=>False
  | .fail=>lg.1=0
theorem one9 {rules:List Lx.Ex} {n p:Nat} {s:ByteArray} (hG:GdR rules n) (hp:p<s.size) (hap:P1 (AX rules n ((tx s).drop p)) (AX rules n ((tx s).drop p)).length):M9 (Lx.match1 hN hS (Lx.nOut rules) n (Lx.nStop rules) (Lx.nKind rules) dsN ((tx s).drop p) p 1 0).2 (Lx.lgst rules (tx s) p):=by
  have h1:=Lx.one_ok (t:=tx s) (p:=p) (ln:=1) (col:=0) (Lx.nFit hG.good hG.dep) (fun r i j h=>Lx.nPos hG.good _ r i j h) (by rw [tx_len]; omega) (ap_first (ap_of rfl hap))
  have h2:=Lx.lgst_ok (t:=tx s) hG.good p
  have h1:(match (Lx.match1 hN hS (Lx.nOut rules) n (Lx.nStop rules) (Lx.nKind rules) dsN ((tx s).drop p) p 1 0).2 with
    | .tok tk=>tk.start=p∧∃ r:Nat,tk.kind=r+1∧Lx.Lgst rules (tx s) p r tk.stop
    | .eof=>p=(tx s).length
    | .fail=>p<(tx s).length∧∀ r j,¬ Lx.Mt rules (tx s) r p j):=h1
  generalize (Lx.match1 hN hS (Lx.nOut rules) n (Lx.nStop rules) (Lx.nKind rules) dsN ((tx s).drop p) p 1 0).2=res at h1 ⊢
  cases res with
  | tok tk =>
    obtain ⟨_,r,h3,h4⟩:=h1
    rcases h2 with ⟨_,h5⟩ | ⟨r',h5,h6⟩
    · exact absurd h4.1 (h5 _ _)
    · have a1:=h4.2.1 _ _ h6.1
      have a2:=h6.2.1 _ _ h4.1
      have a3:tk.stop=(Lx.lgst rules (tx s) p).2:=by omega
      have b1:=h4.2.2 r' (by rw [a3]; exact h6.1)
      have b2:=h6.2.2 r (by rw [← a3]; exact h4.1)
      refine ⟨by rw [h5]; omega,by rw [h3,h5]; omega,a3⟩
  | eof=>simp only [tx_len] at h1; omega
  | fail =>
    rcases h2 with ⟨h5,_⟩ | ⟨r',h5,h6⟩
    · show (Lx.lgst rules (tx s) p).1=0
      rw [h5]
    · exact absurd h6.1 (h1.2 _ _)
theorem fin9 {res:Lx.Res} {lg:Int × Nat} {p:Nat} {k st s5:Int} {b:Bool} (h:M9 res lg) (hT:Tk32 res p k st s5 b):(b=false∧decide (0<lg.1)=false)∨(b=true∧decide (0<lg.1)=true∧k=lg.1∧st=(p:Int)∧s5=(lg.2:Int)):=by
  cases res with
  | tok tk =>
    obtain ⟨h1,h2,h3⟩:=h
    obtain ⟨g1,g2,g3,g4⟩:=hT
    exact .inr ⟨g1,decide_eq_true h1,by rw [g2,h2],g3,by rw [g4,h3]⟩
  | eof=>exact h.elim
  | fail =>
    have h:lg.1=0:=h
    exact .inl ⟨hT,by rw [h]; rfl⟩
set_option maxRecDepth 100000 in
set_option maxHeartbeats 8000000 in
theorem c9 {subs : List Lx.Ex} {sa : Option Addr} {c : Nat} {s : ByteArray} {aw : Int} (hS : ExS w subs sa 0) (hLs : LenE.LenS subs) : Calls Tryz.prog 9 #[.slice sa subs.length c, .string s, .int .i64 aw] w (LwQ w) := by
  have HH:=Lib.hid (And.intro hS hLs)
  clear hS hLs
  by_cases h1:subs.length≤2147483647
  · by_cases h2 : s.size ≤ 2147483647
    · have i1 : ¬ (2147483647:Int)<(subs.length:Int):=by omega
      have i2 : ¬ (2147483647:Int)<(s.size:Int):=by omega
      have H11:=Lib.hid (c11 (c:=c) (by omega) HH.out.2 HH.out.1)
      have HL:=Lib.hid (And.intro h1 h2)
      clear h1 h2
      go_enter Tryz.func9,Tryz.ntmps9
      go_wp2_with fail
      go_at_call 11
      refine H11.out.mono ?_
      rintro e w1 ⟨sa1,c1,rfl,hS1,hb1⟩
      obtain ⟨gb,hgb⟩:∃ g,g=goodB subs:=⟨_,rfl⟩
      have h12:=c12 (c:=c1) (by have:=HL.out.1; omega) hS1
      rw [← hgb] at h12
      have H12:=Lib.hid h12
      have HS1:=Lib.hid (And.intro hS1 (And.intro hb1 hgb))
      clear h12 hS1 hb1 hgb H11
      go_wp2_with fail
      go_at_call 12
      refine H12.out.mono ?_
      rintro e w2 ⟨rfl,hb2⟩
      have HB2:=Lib.hid (bl_tr HS1.out.2.1 hb2)
      have HS2:=Lib.hid (HS1.out.1.mono hb2)
      clear hb2 H12
      cases gb with
      | false =>
        go_wp2_with fail
        refine bodyPost_ret (v:=.bool true) ?_ rfl ⟨rfl,HB2.out⟩
        simp [results,Tryz.results9,go_sem]
      | true =>
        obtain ⟨n,hG⟩:=gd_of HS1.out.2.2.symm
        obtain ⟨tb,htb⟩:∃ g,g=textB (tx s):=⟨_,rfl⟩
        have h13:=c13 (s:=s) (w:=w2) (by have:=HL.out.2; omega)
        rw [← htb] at h13
        have H13:=Lib.hid h13
        have HT:=Lib.hid (And.intro htb hG)
        clear h13 htb hG
        go_wp2_with fail
        go_at_call 13
        refine H13.out.mono ?_
        rintro e w3 ⟨rfl,rfl⟩
        clear H13
        cases tb with
        | false =>
          go_wp2_with fail
          refine bodyPost_ret (v:=.bool true) ?_ rfl ⟨rfl,HB2.out⟩
          simp [results,Tryz.results9,go_sem]
        | true =>
          obtain ⟨ht1,ht2⟩:=tx_of HT.out.1.symm
          have HTx:=Lib.hid (And.intro ht1 ht2)
          clear ht1 ht2
          by_cases hn0:aw<0
          · go_wp2_with fail
            refine bodyPost_ret (v:=.bool true) ?_ rfl ⟨rfl,HB2.out⟩
            simp [results,Tryz.results9,go_sem]
          · obtain ⟨p,rfl⟩:∃ p:Nat,aw=(p:Int):=⟨aw.toNat,by omega⟩
            by_cases hk:p<s.size
            · have i4 : ¬ ((p:Nat):Int)<0:=by omega
              have i5 : ¬ (s.size:Int)<((p:Nat):Int):=by omega
              have i6:(0:Int)≤((p:Nat):Int):=by omega
              have i7:((p:Nat):Int)≤(s.size:Int):=by omega
              have i8 : ¬ (s.size:Int)≤((p:Nat):Int):=by omega
              have HP:=Lib.hid hk
              clear hk hn0
              go_wp2_with fail
              have hts:=tx_extract s p
              have HX2:=Lib.hid hts
              have H14:=Lib.hid (c14 (s:=s.extract p s.size) (c0:=c1) HT.out.2 HS2.out (by rw [hts]; exact fun x hx=>HTx.out.1 x (List.mem_of_mem_drop hx)) (by have:=HTx.out.2; have h:=tx_len (s.extract p s.size); rw [hts,List.length_drop,tx_len] at h; omega))
              clear hts
              go_at_call 14
              refine H14.out.mono ?_
              rintro e w4 ⟨ab,rfl,hap,hb4⟩
              have HA:=Lib.hid (And.intro hap (And.intro (bl_tr HB2.out hb4) (HS2.out.mono hb4)))
              clear hap hb4 H14 HB2 HS2
              cases ab with
              | false =>
                go_wp2_with fail
                refine bodyPost_ret (v:=.bool true) ?_ rfl ⟨rfl,HA.out.2.1⟩
                simp [results,Tryz.results9,go_sem]
              | true =>
                have hm9:=one9 HT.out.2 (p:=p) (s:=s) HP.out (by have h:=HA.out.1 (by first | trivial | rfl); rw [HX2.out] at h; exact h)
                generalize hlg:Lx.lgst subs (tx s) p=lg at hm9
                generalize hres:(Lx.match1 hN hS (Lx.nOut subs) n (Lx.nStop subs) (Lx.nKind subs) dsN ((tx s).drop p) p 1 0).2=res at hm9
                have h19:=c19 (i0:=p) (c:=c1) (s:=s) (by have:=HT.out.2.len; omega) (fun e he=>(HT.out.2.good e he).1) HA.out.2.2 (by have:=HTx.out.2; omega) (by have:=HP.out; omega)
                rw [hlg] at h19
                have H19:=Lib.hid h19
                have Hres:=Lib.hid hres
                have HM:=Lib.hid hm9
                clear h19 hres hm9 hlg
                unfold tkC at H19
                go_wp2_with fail
                go_at_call 19
                refine H19.out.mono ?_
                rintro e w5 ⟨rfl,hb5⟩
                have HA5:=Lib.hid (And.intro (bl_tr HA.out.2.1 hb5) (HA.out.2.2.mono hb5))
                have H0:=(St.nil w5).alloc (ob 36 [.int .i64 lg.1,.int .i64 (p:Int),.int .i64 (lg.2:Int),.int .i64 0,.int .i64 0])
                have h21:=c21 (c:=c1) (by have:=HT.out.2.len; omega) HT.out.2.size (fun e he=>(HT.out.2.good e he).1) (HA5.out.2.mono H0.below)
                have H21:=Lib.hid h21
                have H00:=Lib.hid H0
                clear hb5 H19 HA h21 H0
                go_wp2_with fail
                go_at_call 21
                refine H21.out.mono ?_
                rintro e w6 ⟨V,ru,rfl,hN6,hb6⟩
                have h20:=c20 HT.out.2 hN6 HTx.out.1 HTx.out.2 (p:=p) (by have:=HP.out; omega)
                rw [Hres.out] at h20
                have H20:=Lib.hid h20
                have H6:=Lib.hid (H00.out.over_base (St.ofBelow hb6))
                clear hN6 hb6 h20 H21
                go_wp2_with fail
                go_at_call 20
                refine H20.out.mono ?_
                rintro e w7 ⟨k,st,s5,l5,c5,b,rfl,hT7,hb7⟩
                have H7:St w5.heap.size w5 (pts w7.heap.size 41 [.int .i64 k,.int .i64 st,.int .i64 s5,.int .i64 l5,.int .i64 c5]::pts w5.heap.size 36 [.int .i64 lg.1,.int .i64 (p:Int),.int .i64 (lg.2:Int),.int .i64 0,.int .i64 0]::_) (w7.alloc (.cells #[.int .i64 k,.int .i64 st,.int .i64 s5,.int .i64 l5,.int .i64 c5] 41)):=(H6.out.over_base (St.ofBelow hb7)).alloc (ob 41 [.int .i64 k,.int .i64 st,.int .i64 s5,.int .i64 l5,.int .i64 c5])
                have hfin:=fin9 HM.out hT7
                have f0:=(H7.pick 1).cells.1 0
                have f2:=(H7.pick 1).cells.1 2
                have g0:=H7.cells.1 0
                have g1:=H7.cells.1 1
                have g2:=H7.cells.1 2
                simp only [List.getElem?_cons_zero,List.getElem?_cons_succ] at f0 f2 g0 g1 g2
                have HE:=Lib.hid (bl_tr HA5.out.1 H7.below)
                clear hT7 hb7 H7 H6 H20 HM
                rcases hfin with ⟨rfl,h2⟩ | ⟨rfl,h2,rfl,rfl,rfl⟩
                · have hd:decide (0<lg.1)=false:=h2
                  rw [hd]
                  clear hd h2
                  go_wp2_with fail
                  refine bodyPost_ret (v:=.bool true) ?_ rfl ⟨rfl,HE.out⟩
                  simp [results,Tryz.results9,go_sem]
                · have hd:decide (0<lg.1)=true:=h2
                  rw [hd]
                  have z1:(lg.1 == lg.1)=true:=beq_self_eq_true _
                  have z2:((p:Int) == (p:Int))=true:=beq_self_eq_true _
                  have z3:((lg.2:Int) == (lg.2:Int))=true:=beq_self_eq_true _
                  clear hd h2
                  go_wp2_with fail
                  refine bodyPost_ret (v:=.bool true) ?_ rfl ⟨rfl,HE.out⟩
                  simp [results,Tryz.results9,go_sem]
            · have hk1:(s.size:Int)≤(p:Int):=by omega
              go_wp2_with fail
              refine bodyPost_ret (v:=.bool true) ?_ rfl ⟨rfl,HB2.out⟩
              simp [results,Tryz.results9,go_sem]
    · have i1 : ¬ (2147483647:Int)<(subs.length:Int):=by omega
      have i2:(2147483647:Int)<(s.size:Int):=by omega
      clear h1 h2
      go_enter Tryz.func9,Tryz.ntmps9
      go_wp2_with fail
      refine bodyPost_ret (v:=.bool true) ?_ rfl ⟨rfl,(St.nil w).below⟩
      simp [results,Tryz.results9,go_sem]
  · have i1:(2147483647:Int)<(subs.length:Int):=by omega
    clear h1
    go_enter Tryz.func9,Tryz.ntmps9
    go_wp2_with fail
    refine bodyPost_ret (v:=.bool true) ?_ rfl ⟨rfl,(St.nil w).below⟩
    simp [results,Tryz.results9,go_sem]
end Go.Proofs.YtbcngfgemjdllaaGreatDoor
end
