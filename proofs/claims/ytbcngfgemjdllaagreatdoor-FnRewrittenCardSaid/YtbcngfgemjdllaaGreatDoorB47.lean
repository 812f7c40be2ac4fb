/- Part 47: S10, S11, OX, JF. -/
import Derived.RegionTactic
import Derived.ChangeAlike
import Derived.Deep.RegionHeld3
import Derived.ProofKit
import Derived.OpenShut
import Derived.JoinedOf
import Derived.Test.YtbcngfgemjdllaaGreatDoorB14
import Derived.Test.YtbcngfgemjdllaaGreatDoorB46
set_option linter.unusedVariables false
set_option linter.unusedSimpArgs false
section
namespace Go.Proofs.YtbcngfgemjdllaaGreatDoor
open Go.RowKit Go.Own
def lgK (t:List Nat) (i0:Nat) (rs:List Lx.Ex) (k:Nat):Int × Nat:=Lx.lgR t i0 (rs.take k) 0 (0,i0)
theorem lgR_take {t:List Nat} {i0:Nat} : ∀ {rs:List Lx.Ex} {k k0:Nat} {s:Lx.Ex} {x:Int × Nat},rs[k]? = some s→Lx.lgR t i0 (rs.take (k+1)) k0 x=Lx.lg1 (Lx.eB t s (Lx.only i0)) ((k0+k:Nat)+1) (t.length+1) (Lx.lgR t i0 (rs.take k) k0 x)
  | [],_,_,_,_,h=>by simp at h
  | y::rs,0,k0,s,x,h=>by simp at h; subst h; simp [Lx.lgR]
  | y::rs,k+1,k0,s,x,h=>by
    simp only [List.take_succ_cons,Lx.lgR]
    rw [lgR_take (by simpa using h),show k0+1+k=k0+(k+1) from by omega]
theorem lgK_succ {t:List Nat} {i0 k:Nat} {rs:List Lx.Ex} {s:Lx.Ex} (h:rs[k]? = some s):lgK t i0 rs (k+1)=Lx.lg1 (Lx.eB t s (Lx.only i0)) ((k:Nat)+1) (t.length+1) (lgK t i0 rs k):=by
  unfold lgK
  rw [lgR_take h,Nat.zero_add]
theorem lgK_all {t:List Nat} {i0:Nat} {rs:List Lx.Ex} : lgK t i0 rs rs.length=Lx.lgst rs t i0:=by unfold lgK Lx.lgst; rw [List.take_length]
theorem lgK_zero {t:List Nat} {i0:Nat} {rs:List Lx.Ex} : lgK t i0 rs 0=(0,i0):=by simp [lgK,Lx.lgR]
theorem lg1_yes {E:Nat→Bool} {k:Int} {m:Nat} {x:Int × Nat} (h:E m=true) (h2:(Lx.lg1 E k m x).2<m):Lx.lg1 E k (m+1) x=(k,m):=by simp [Lx.lg1,h,h2]
theorem lg1_no {E:Nat→Bool} {k:Int} {m:Nat} {x:Int × Nat} (h:E m=false ∨ ¬ (Lx.lg1 E k m x).2<m):Lx.lg1 E k (m+1) x=Lx.lg1 E k m x:=by
  rcases h with h | h <;> simp [Lx.lg1,h]
def liF (E:Nat→Bool) (k:Int) (x:Int × Nat) (j:Nat):Int × Nat:=Lx.lg1 E k j x
theorem liF_yes {E:Nat→Bool} {k:Int} {m:Nat} {x:Int × Nat} (h:E m=true) (h2:(liF E k x m).2<m):liF E k x (m+1)=(k,m):=lg1_yes h h2
theorem liF_no {E:Nat→Bool} {k:Int} {m:Nat} {x:Int × Nat} (h:E m=false ∨ ¬ (liF E k x m).2<m):liF E k x (m+1)=liF E k x m:=lg1_no h
def tkC (x:Int × Nat) (i0:Nat):List Value:=[.int .i64 x.1,.int .i64 i0,.int .i64 (x.2:Int),.int .i64 0,.int .i64 0]
theorem tk_cells {B:Nat} {w0 w:World} {r:List HP} {b i0:Nat} {x:Int × Nat} (H:St B w0 (pts b 36 (tkC x i0)::r) w):w.cell? ⟨b,0,none⟩=some (.int .i64 x.1)∧w.cell? ⟨b,1,none⟩=some (.int .i64 i0)∧w.cell? ⟨b,2,none⟩=some (.int .i64 (x.2:Int))∧w.cell? ⟨b,3,none⟩=some (.int .i64 0)∧w.cell? ⟨b,4,none⟩=some (.int .i64 0) :=
  ⟨H.cells.1 0,H.cells.1 1,H.cells.1 2,H.cells.1 3,H.cells.1 4⟩
def zTk:List Value:=[.int .i64 0,.int .i64 0,.int .i64 0,.int .i64 0,.int .i64 0]
def LgRel (w:World) (b6 m i0:Nat) (F:Nat→Int × Nat) (n:Nat) (i:Value) (wr:World):Prop :=
  ∃ k:Nat,k≤n∧i=.int .i64 k∧St w.heap.size w [pts (b6+1+1) 36 (tkC (F k) i0),pts (b6+1) 4 (bl m (Lx.only i0)),pts b6 36 zTk] wr
def LiRel (w:World) (b6 m i0 gr:Nat) (E:Nat→Bool) (F:Nat→Int × Nat) (i:Value) (wr:World):Prop :=
  ∃ k:Nat,k≤m∧i=.int .i64 k∧gr≠b6+1+1∧BlAt wr gr m E∧St w.heap.size w [pts (b6+1+1) 36 (tkC (F k) i0),pts (b6+1) 4 (bl m (Lx.only i0)),pts b6 36 zTk] wr
theorem only_set {i0:Nat} : fset (fun _=>false) i0 true=Lx.only i0:=by
  funext j
  unfold fset Lx.only
  by_cases e:j=i0
  · subst e; simp
  · simp [e]
set_option maxRecDepth 100000 in
set_option maxHeartbeats 4000000 in
theorem c19 {rs:List Lx.Ex} {sa:Option Addr} {c i0:Nat} {s:ByteArray} {w:World} (hl:rs.length≤1000) (hg:∀ e ∈ rs,∃ d,Lx.good d e=true) (hS:ExS w rs sa 0) (hs:s.size<1000000) (hi:i0≤s.size) :
    Calls Tryz.prog 19 #[.slice sa rs.length c,.string s,.int .i64 (i0:Int)] w fun e' w'=>e'=.returned (.tuple #[.agg (tkC (Lx.lgst rs (tx s) i0) i0).toArray,.bool (decide (0<(Lx.lgst rs (tx s) i0).1))])∧Below w.heap.size w w':=by
  obtain ⟨m,hm⟩:∃ m,m=s.size+1:=⟨_,rfl⟩
  have hm2:m<1073741824:=by omega
  have H0:=(((St.nil w).alloc (ob 36 zTk)).alloc (ob 4 (bl m fun _=>false)))
  have hsz:(w.alloc (ob 36 zTk)).heap.size=w.heap.size+1:=Array.size_push _
  rw [hsz] at H0
  have H0':=H0.setCell (off:=i0) (.bool true)
  rw [bl_set,only_set] at H0'
  have H1:=H0'.alloc (ob 36 (tkC (0,i0) i0))
  have hsz2:(((w.alloc (ob 36 zTk)).alloc (ob 4 (bl m fun _=>false))).setCell ⟨w.heap.size+1,i0,none⟩ (.bool true)).heap.size=w.heap.size+1+1:=by
    rw [World.size_setCell]
    show (Array.push _ _).size=_
    rw [Array.size_push,hsz]
  rw [hsz2] at H1
  have hw1:wrap64 ((s.size:Int)+1)=(m:Int):=by rw [IntWalk.wrap64_in _ (by omega)]; omega
  have hw2:(s.size:Int)+1=(m:Int):=by omega
  have hmk:=fun W=>run_make70 (m:=m) (by omega) W
  have hg0:=H0.cells.1 i0
  rw [bl_get (by omega)] at hg0
  have hg1:=H0.cells.2 i0
  have hg0':((w.alloc (.cells #[.int .i64 0,.int .i64 0,.int .i64 0,.int .i64 0,.int .i64 0] 36)).alloc (ob 4 (bl m fun _=>false))).cell? ⟨w.heap.size+1,i0,none⟩=some (.bool false):=hg0
  have hg1':((w.alloc (.cells #[.int .i64 0,.int .i64 0,.int .i64 0,.int .i64 0,.int .i64 0] 36)).alloc (ob 4 (bl m fun _=>false))).frozen? ⟨w.heap.size+1,i0,none⟩=false:=hg1
  clear hg0 hg1
  have hi0:(0:Int)≤(i0:Int):=Int.natCast_nonneg _
  have hi1:(i0:Int)<(m:Int):=by omega
  have HS:=Lib.hid hS
  have H11:=Lib.hid H1
  have Hm:=Lib.hid hm
  have Hg:=Lib.hid hg
  clear hS hm H0 H0' H1 hsz hsz2 hg
  go_enter Tryz.func19,Tryz.ntmps19
  go_wp2_with fail
  have H1:=H11.out
  rw [← lgK_zero (t:=tx s) (i0:=i0) (rs:=rs)] at H1
  clear hg0' hg1'
  go_loopw [26] (LgRel w w.heap.size m i0 (lgK (tx s) i0 rs) rs.length) (fun i _=>rs.length - (intOf i).toNat)
  case atStart=>exact ⟨0,Nat.zero_le _,rfl,H1⟩
  case round =>
    clear H1
    obtain ⟨k,hk,rfl,H1⟩:=hrel
    by_cases hlt:k<rs.length
    · obtain ⟨g2,o,op',a',b',sa',n',cc',rfl,hat⟩:=HS.out.get0 (List.getElem?_eq_getElem hlt)
      have hat:=hat.mono H1.below
      have hk0:(0:Int)≤(k:Int):=Int.natCast_nonneg _
      have hk1:(k:Int)<(rs.length:Int):=by omega
      have e0:=hat.c0
      have e1:=hat.c1
      have e2:=hat.c2
      have e3:=hat.c3
      have hbl:=BlAt.of (H1.pick 1)
      obtain ⟨d,hd⟩:=Hg.out rs[k] (List.getElem_mem hlt)
      have h31:=fun W (h:Below wr.heap.size wr W)=>c31 rs[k] d hd s m m _ _ _ W Hm.out hm2 (hat.v.mono h) (hbl.mono h)
      have hw:=wrapS hlt (by omega)
      have Hw:=Lib.hid hw
      have Hq:=Lib.hid (show lgK (tx s) i0 rs (k+1)=liF (Lx.eB (tx s) rs[k] (Lx.only i0)) ((k:Nat)+1) (lgK (tx s) i0 rs k) ((tx s).length+1) from lgK_succ (t:=tx s) (i0:=i0) (List.getElem?_eq_getElem hlt))
      clear hw hbl hat hd
      generalize rs[k]=ek at h31 Hq
      go_wp2_with (first
        | (go_at_call 31; refine (h31 _ ((St.nil _).alloc _).below).mono ?_; rintro e w2 ⟨g',rfl,h2⟩
           have H2:=(H1.alloc (ob 28 [.int .i64 op',.int .i64 a',.int .i64 b',.slice sa' n' cc'])).pick 1
           obtain ⟨hn2,hb2,H3⟩:=row_new H2 h2
           have H3:=(H3.pick 1).drop
           have Hb2:=Lib.hid hb2
           clear h2 hb2 H2))
      go_loopw [36] (LiRel w w.heap.size m i0 g' (Lx.eB (tx s) ek (Lx.only i0)) (liF (Lx.eB (tx s) ek (Lx.only i0)) ((k:Nat)+1) (lgK (tx s) i0 rs k))) (fun i _=>m - (intOf i).toNat)
      case atStart=>exact ⟨0,Nat.zero_le _,rfl,hn2,Hb2.out,H3⟩
      case round =>
        clear H3 Hb2 H1 h31 e0 e1 e2 e3
        obtain ⟨j,hj,rfl,hne,hbl,H4⟩:=hrel
        by_cases hjt:j<m
        · have hj0:(0:Int)≤(j:Int):=Int.natCast_nonneg _
          have hj1:(j:Int)<(m:Int):=by omega
          have hr:=hbl j hjt
          obtain ⟨t0,_,t2,_,_⟩:=tk_cells H4
          have t0f:=H4.cells.2 0
          have t2f:=H4.cells.2 2
          have hwj:=wrapS hjt (by omega)
          have Hwj:=Lib.hid hwj
          have Hst:=Lib.hid ((H4.setCell (off:=0) (.int .i64 ((k:Nat)+1))).setCell (off:=2) (.int .i64 j))
          have Hbs:=Lib.hid (BlAt.set (B:=w.heap.size) (w0:=w) (r:=[]) (cs:=[]) (i:=2) (v:=.int .i64 j) (BlAt.set (B:=w.heap.size) (w0:=w) (w:=wr) (r:=[]) (cs:=[]) (i:=0) (v:=.int .i64 ((k:Nat)+1)) hbl hne) hne)
          have HB:=Lib.hid hbl
          have H44:=Lib.hid H4
          clear hwj H4 hbl
          cases ha:Lx.eB (tx s) ek (Lx.only i0) j
          · rw [ha] at hr
            have Hno:=Lib.hid (liF_no (k:=(k:Nat)+1) (x:=lgK (tx s) i0 rs k) (.inl ha))
            clear ha
            go_wp2_with fail
            first | rw [Hwj.out] | rw [show ((j:Int)+1)=((j+1:Nat):Int) from by omega]
            exact ⟨⟨j+1,hjt,rfl,hne,HB.out,by rw [Hno.out]; exact H44.out⟩,measS hjt⟩
          · rw [ha] at hr
            by_cases hc:(((liF (Lx.eB (tx s) ek (Lx.only i0)) ((k:Nat)+1) (lgK (tx s) i0 rs k) j).2:Int)<(j:Int))
            · have Hy:=Lib.hid (liF_yes (k:=(k:Nat)+1) (x:=lgK (tx s) i0 rs k) ha (by omega))
              clear ha
              go_wp2_with fail
              first | rw [Hwj.out] | rw [show ((j:Int)+1)=((j+1:Nat):Int) from by omega]
              refine ⟨⟨j+1,hjt,rfl,hne,?_,?_⟩,measS hjt⟩
              · first | exact Hbs.out
              · rw [Hy.out]; exact Hst.out
            · have Hno:=Lib.hid (liF_no (E:=Lx.eB (tx s) ek (Lx.only i0)) (k:=(k:Nat)+1) (m:=j) (x:=lgK (tx s) i0 rs k) (.inr (by omega)))
              clear ha
              go_wp2_with fail
              first | rw [Hwj.out] | rw [show ((j:Int)+1)=((j+1:Nat):Int) from by omega]
              exact ⟨⟨j+1,hjt,rfl,hne,HB.out,by rw [Hno.out]; exact H44.out⟩,measS hjt⟩
        · have hj1 : ¬ (j:Int)<(m:Int):=by omega
          have hjl:j=(tx s).length+1:=by rw [tx_len]; have:=Hm.out; omega
          rw [hjl] at H4
          rw [← Hq.out] at H4
          clear hjl hbl
          go_wp2_with fail
          first | rw [Hw.out] | rw [show ((k:Int)+1)=((k+1:Nat):Int) from by omega]
          exact ⟨⟨k+1,hlt,rfl,H4⟩,measS hlt⟩
    · have hk1 : ¬ (k:Int)<(rs.length:Int):=by omega
      have hkl:k=rs.length:=by omega
      rw [hkl,lgK_all] at H1
      obtain ⟨t0,t1,t2,t3,t4⟩:=tk_cells H1
      have z:=(H1.pick 2).cells.1
      have z0:=z 0
      have z1:=z 1
      have z2:=z 2
      have z3:=z 3
      have z4:=z 4
      have zf:=(H1.pick 2).cells.2
      simp only [zTk,List.getElem?_cons_zero,List.getElem?_cons_succ] at z0 z1 z2 z3 z4
      clear z
      clear hkl
      go_wp2_with fail
      go_region
      go_wp2_with fail
      have H6:St w.heap.size w (pts w.heap.size 36 (tkC (Lx.lgst rs (tx s) i0) i0)::_) _:=(((((((H1.pick 2).setCell (off:=0) (.int .i64 (Lx.lgst rs (tx s) i0).1)).setCell (off:=1) (.int .i64 i0)).setCell (off:=2) (.int .i64 ((Lx.lgst rs (tx s) i0).2:Int))).setCell (off:=3) (.int .i64 0)).setCell (off:=4) (.int .i64 0))).drew
      obtain ⟨q0,q1,q2,q3,q4⟩:=tk_cells H6
      refine bodyPost_ret (v:=.tuple #[.agg (tkC (Lx.lgst rs (tx s) i0) i0).toArray,.bool (decide (0<(Lx.lgst rs (tx s) i0).1))]) ?_ rfl ⟨rfl,H6.below⟩
      clear H6
      generalize (World.drew _)=W at q0 q1 q2 q3 q4 ⊢
      simp [results,Tryz.results19,go_sem,q0,q1,q2,q3,q4,tkC]
end Go.Proofs.YtbcngfgemjdllaaGreatDoor
end
section
namespace Go.Proofs.YtbcngfgemjdllaaGreatDoor
open Go.RowKit Go.Own
def PlRel (s:ByteArray) (w:World) (n:Nat) (l c i:Value) (wr:World):Prop:=∃ k:Nat,k≤n∧l=.int .i64 ((Lx.plc (tx s) k).1:Int)∧c=.int .i64 ((Lx.plc (tx s) k).2:Int)∧i=.int .i64 k∧wr=w
theorem plc_bnd (t:List Nat):∀ k,k≤t.length→(Lx.plc t k).1≤k+1∧(Lx.plc t k).2≤k
  | 0,_=>by simp [Lx.plc]
  | k+1,h=>by
    have ih:=plc_bnd t k (by omega)
    rw [Lx.plc_succ (List.getElem?_eq_getElem (show k<t.length by omega))]
    unfold Lx.moved
    split <;> simp <;> omega
set_option maxRecDepth 100000 in
set_option maxHeartbeats 1000000 in
theorem c30 {s:ByteArray} {i0:Nat} {w:World} (hs:s.size<1000000) (hi:i0≤s.size):Calls Tryz.prog 30 #[.string s,.int .i64 (i0:Int)] w fun e' w'=>e'=.returned (.tuple #[.int .i64 ((Lx.plc (tx s) i0).1:Int),.int .i64 ((Lx.plc (tx s) i0).2:Int)])∧w'=w:=by
  go_enter Tryz.func30,Tryz.ntmps30
  go_wp2_with fail
  go_loopw [6,7,10] (PlRel s w i0) (fun _ _ i _=>i0 - (intOf i).toNat)
  case atStart=>exact ⟨0,Nat.zero_le _,by simp [Lx.plc],by simp [Lx.plc],rfl,rfl⟩
  case round =>
    obtain ⟨k,hk,rfl,rfl,rfl,rfl⟩:=hrel
    by_cases hlt:k<i0
    · have hk0:(0:Int)≤(k:Int):=Int.natCast_nonneg _
      have hk1:(k:Int)<(i0:Int):=by omega
      have hks:k<s.size:=by omega
      have hk2:(k:Int)<(s.size:Int):=by omega
      have hb:=plc_bnd (tx s) k (by rw [tx_len]; omega)
      have Hp:=Lib.hid (Lx.plc_succ (tx_get hks))
      generalize Lx.plc (tx s) k=P at hb Hp ⊢
      by_cases hc:(s[k]'hks).toNat=10
      · have hcb:(((s[k]'hks).toNat:Int) == 10)=true:=by rw [beq_iff_eq]; omega
        have Hc:=Lib.hid hc
        clear hc
        go_wp2_with fail
        have hm:Lx.moved P.1 P.2 (s[k]'hks).toNat=(P.1+1,0):=by rw [Hc.out]; rfl
        rw [show ((k:Int)+1)=((k+1:Nat):Int) from by omega]
        first | rw [show wrap64 ((P.1:Int)+1)=((P.1+1:Nat):Int) from by rw [IntWalk.wrap64_in _ (by omega)]; omega] | rw [show ((P.1:Int)+1)=((P.1+1:Nat):Int) from by omega]
        exact ⟨⟨k+1,hlt,by rw [Hp.out,hm],by rw [Hp.out,hm]; rfl,rfl,rfl⟩,measS hlt⟩
      · have hcb:(((s[k]'hks).toNat:Int) == 10)=false:=by rw [beq_eq_false_iff_ne]; omega
        have Hc:=Lib.hid hc
        clear hc
        go_wp2_with fail
        have hm:Lx.moved P.1 P.2 (s[k]'hks).toNat=(P.1,P.2+1):=by unfold Lx.moved; rw [if_neg Hc.out]
        rw [show ((k:Int)+1)=((k+1:Nat):Int) from by omega]
        first | rw [show wrap64 ((P.2:Int)+1)=((P.2+1:Nat):Int) from by rw [IntWalk.wrap64_in _ (by omega)]; omega] | rw [show ((P.2:Int)+1)=((P.2+1:Nat):Int) from by omega]
        exact ⟨⟨k+1,hlt,by rw [Hp.out,hm],by rw [Hp.out,hm],rfl,rfl⟩,measS hlt⟩
    · have hk1 : ¬ (k:Int)<(i0:Int):=by omega
      have hkl:k=i0:=by omega
      rw [hkl]
      go_wp2_with fail
      go_ret2
      exact ⟨rfl,rfl⟩
theorem c19' {rs:List Lx.Ex} {sa:Option Addr} {c i0:Nat} {s:ByteArray} {w:World} {x:Int × Nat} (hx:Lx.lgst rs (tx s) i0=x) (hl:rs.length≤1000) (hg:∀ e ∈ rs,∃ d,Lx.good d e=true) (hS:ExS w rs sa 0) (hs:s.size<1000000) (hi:i0≤s.size) :
    Calls Tryz.prog 19 #[.slice sa rs.length c,.string s,.int .i64 (i0:Int)] w fun e' w'=>e'=.returned (.tuple #[.agg #[.int .i64 x.1,.int .i64 i0,.int .i64 (x.2:Int),.int .i64 0,.int .i64 0],.bool (decide (0<x.1))])∧Below w.heap.size w w':=by
  subst hx
  exact c19 hl hg hS hs hi
theorem sl30:SlT Tryz.prog 30 36 5 40 (.agg #[.int .i64 0,.int .i64 0,.int .i64 0,.int .i64 0,.int .i64 0]):=⟨by kernel_rfl,sl_inf' (by kernel_rfl),by kernel_rfl,by decide⟩
def tkV (t:Lx.Tok):List Value:=[.int .i64 t.kind,.int .i64 (t.start:Int),.int .i64 (t.stop:Int),.int .i64 (t.ln:Int),.int .i64 (t.col:Int)]
theorem swap12 {B:Nat} {w0 w:World} {r:List HP} {a b c:HP} (H:St B w0 (a::b::c::r) w):St B w0 (a::c::b::r) w:=H.perm ((List.Perm.swap _ _ _).cons _)
def AllRel (w:World) (rs:List Lx.Ex) (t:List Nat) (v i:Value) (wr:World):Prop :=
  ∃ (ts:List Lx.Tok) (p:Nat) (sa:Option Addr) (c:Nat),v=.slice sa ts.length c∧i=.int .i64 p∧p≤t.length∧ts.length≤p∧(∀ rest f,Lx.AllR rs t p rest f→Lx.AllR rs t 0 (ts++rest) f)∧St w.heap.size w [Osl v 36 5 ts.length (ts.flatMap tkV)] wr
set_option maxRecDepth 100000 in
set_option maxHeartbeats 2000000 in
theorem c16 {rs:List Lx.Ex} {sa:Option Addr} {c:Nat} {s:ByteArray} {w:World} (hl:rs.length≤1000) (hg:Lx.GoodR rs) (hS:ExS w rs sa 0) (hs:s.size<1000000) :
    Calls Tryz.prog 16 #[.slice sa rs.length c,.string s] w fun e' w'=>∃ (ts:List Lx.Tok) (f:Int) (sa':Option Addr) (c':Nat),e'=.returned (.tuple #[.slice sa' ts.length c',.int .i64 f])∧Lx.AllR rs (tx s) 0 ts f∧ts.length≤s.size∧St w.heap.size w [Osl (.slice sa' ts.length c') 36 5 ts.length (ts.flatMap tkV)] w':=by
  have HS:=Lib.hid hS
  have Hg:=Lib.hid hg
  have H0:=St.ownFull (m:=0) (sz:=5) ((St.nil w).alloc (ob 36 [])) rfl (by simp [maxLen])
  have H00:=Lib.hid H0
  clear hS hg H0
  go_enter Tryz.func16,Tryz.ntmps16
  go_wp2_with fail
  go_loopw [6,7] (AllRel w rs (tx s)) (fun _ i _=>s.size - (intOf i).toNat)
  case atStart =>
    exact ⟨[],0,_,_,rfl,rfl,Nat.zero_le _,Nat.le_refl _,fun _ _ h=>h,H00.out⟩
  case round =>
    obtain ⟨ts,p,sa1,c1,rfl,rfl,hp,htl,hd,H1⟩:=hrel
    rw [tx_len] at hp
    have hp0:(0:Int)≤(p:Int):=Int.natCast_nonneg _
    have Hd:=Lib.hid hd
    clear hd
    by_cases hlt:p<s.size
    · have hp1:(p:Int)<(s.size:Int):=by omega
      have h19:=fun x hx=>c19' (c:=c) (i0:=p) (x:=x) hx hl (fun e he=>(Hg.out e he).1) (HS.out.mono H1.below) hs (by omega)
      rcases Lx.lgst_ok (t:=tx s) Hg.out p with ⟨hq,hno⟩ | ⟨r,hq,hL⟩
      · replace h19:=h19 _ hq
        have Hno:=Lib.hid hno
        clear hno hq
        go_wp2_with (first
          | (go_at_call 19; refine h19.mono ?_; rintro e w1 ⟨rfl,hb⟩; have H2:=H1.grow hb; clear hb))
        go_ret2
        refine ⟨ts,p,sa1,c1,rfl,?_,by omega,((H2.alloc _).drop)⟩
        have:=Hd.out [] p (.fail (by rw [tx_len]; exact hlt) Hno.out)
        rwa [List.append_nil] at this
      · obtain ⟨j,hj⟩:∃ j,(Lx.lgst rs (tx s) p).2=j:=⟨_,rfl⟩
        rw [hj] at hL
        have hpj:=Lx.nPos Hg.out _ _ _ _ hL.1
        have hjl:j≤(tx s).length:=by
          obtain ⟨e,_,h2⟩:=hL.1
          have:=(Lx.R_le e _ _ h2).2
          omega
        rw [tx_len] at hjl
        replace h19:=h19 ((r:Int)+1,j) (Prod.ext hq hj)
        have hr0:(0:Int)<(r:Int)+1:=by omega
        have HL:=Lib.hid hL
        obtain ⟨tk,htk⟩:∃ tk:Lx.Tok,tk=⟨(r:Int)+1,p,j,(Lx.plc (tx s) j).1,(Lx.plc (tx s) j).2⟩:=⟨_,rfl⟩
        have hone:∀ u ∈ tkV tk,u.oneCell'=true:=by
          intro u hu
          simp only [tkV,List.mem_cons,List.not_mem_nil,or_false] at hu
          rcases hu with rfl | rfl | rfl | rfl | rfl <;> rfl
        have hml:ts.length+1≤maxLen:=by simp only [maxLen]; omega
        have hby:(ts.length+1) * 40≤140737488355328:=by omega
        have HA:=fun (W:World) (H:St w.heap.size w [Osl (.slice sa1 ts.length c1) 36 5 ts.length (ts.flatMap tkV)] W)=>by
          have h1:=(H.alloc (ob 36 (tkV tk))).alloc (ob 36 (tkV tk))
          rw [show (W.alloc (ob 36 (tkV tk))).heap.size=W.heap.size+1 from Array.size_push _] at h1
          exact swap12 h1
        subst htk
        have h30:=fun W=>c30 (w:=W) (i0:=j) hs hjl
        clear hL hj hq
        go_wp2_with (first
          | (go_at_call 19; refine h19.mono ?_; rintro e w1 ⟨rfl,hb⟩; have H2:=H1.grow hb; clear hb)
          | (go_at_call 30; refine (h30 _).mono ?_; rintro e w2 ⟨rfl,rfl⟩)
          | (at_builtin; go_must (refine wpList_append1_st rfl _ _ rfl sl30 (g:=w1.heap.size+1) (news:=tkV ⟨(r:Int)+1,p,j,(Lx.plc (tx s) j).1,(Lx.plc (tx s) j).2⟩) (HA _ H2) rfl 1 rfl rfl rfl hone hml hby ?_)
             intro a3 c3 w4 H4
             have q2:w4.cell? ⟨w1.heap.size,2,none⟩=some (.int .i64 (j:Int)):=(H4.pick 1).cells.1 2
             have H5:=(H4.pick 1).drop
             clear H4))
        first | rw [show wrap64 ((ts.length:Int)+1)=((ts.length+1:Nat):Int) from by rw [IntWalk.wrap64_in _ (by omega)]; omega] | skip
        have hlen:ts.length+1=(ts++[(⟨(r:Int)+1,p,j,(Lx.plc (tx s) j).1,(Lx.plc (tx s) j).2⟩:Lx.Tok)]).length:=by simp
        refine ⟨⟨ts++[⟨(r:Int)+1,p,j,(Lx.plc (tx s) j).1,(Lx.plc (tx s) j).2⟩],j,a3,c3,by rw [← hlen],rfl,by rw [tx_len]; exact hjl,by rw [← hlen]; omega,fun rest f hr => ?_,?_⟩,?_⟩
        · rw [List.append_assoc]
          exact Hd.out _ _ (.step (by rw [tx_len]; exact hlt) rfl rfl hpj (by rw [tx_len]; exact hjl) rfl HL.out hr)
        · rw [← hlen,List.flatMap_append]
          simpa using H5
        · show s.size - ((j:Nat):Int).toNat<s.size - ((p:Nat):Int).toNat
          rw [Int.toNat_natCast,Int.toNat_natCast]; omega
    · have hp1 : ¬ (p:Int)<(s.size:Int):=by omega
      have hpl:p=(tx s).length:=by rw [tx_len]; omega
      go_wp2_with fail
      go_ret2
      refine ⟨ts,-1,sa1,c1,rfl,?_,by omega,H1⟩
      have:=Hd.out [] (-1) (.done hpl)
      rwa [List.append_nil] at this
end Go.Proofs.YtbcngfgemjdllaaGreatDoor
end
section
namespace Go.Proofs.YtbcngfgemjdllaaGreatDoor
open Go.ChangeShapes Go.WideShapes Go.ChangeAt Go.RowKit
variable {H:Type} {enc:TypeId × Value→H} {W:World}
theorem oCells52:Tryz.prog.cellsOf 52=4:=by kernel_rfl
theorem oCells22:Tryz.prog.cellsOf 22=1:=by kernel_rfl
theorem oCells3:Tryz.prog.cellsOf 3=1:=by kernel_rfl
theorem oBytes52:Tryz.prog.bytesOf 52=48:=by kernel_rfl
def WOk (l:List Nat):Prop:=∀ x ∈ l,x≤reachBytes
theorem wok_all {P:Program} {e:TypeId} : ∀ {ds:List (DataW H)} {d:DataW H},WOk (DataW.weightsAll P e ds)→d ∈ ds→WOk (d.weights P e)
  | x::ds,d,h,hm=>by
    unfold DataW.weightsAll at h
    rcases List.mem_cons.1 hm with rfl | hm
    · exact fun y hy=>h y (List.mem_append.2 (.inl hy))
    · exact wok_all (fun y hy=>h y (List.mem_append.2 (.inr hy))) hm
theorem cells4 {a:Addr} {cs:List Value} (h:W.cells? 0 a 4=some cs):∃ c0 c1 c2 c3,cs=[c0,c1,c2,c3]∧a.spot=none∧W.cell? ⟨a.block,a.off,none⟩=some c0∧W.cell? ⟨a.block,a.off+1,none⟩=some c1∧W.cell? ⟨a.block,a.off+2,none⟩=some c2∧W.cell? ⟨a.block,a.off+3,none⟩=some c3:=by
  unfold World.cells? at h
  rw [if_pos (Nat.zero_le _)] at h
  have hl:=mapM_some_length h
  simp only [List.length_range] at hl
  obtain ⟨b,o,sp⟩:=a
  match cs,hl with
  | [c0,c1,c2,c3],_ =>
    have g0:=mapM_some_get h 0 0 (by simp)
    have g1:=mapM_some_get h 1 1 (by simp)
    have g2:=mapM_some_get h 2 2 (by simp)
    have g3:=mapM_some_get h 3 3 (by simp)
    simp only [Addr.add,if_true,if_false,List.getElem?_cons_zero,List.getElem?_cons_succ,Nat.one_ne_zero,reduceIte,Nat.reduceEqDiff] at g0 g1 g2 g3
    have hs:sp=none:=by
      cases sp with
      | none=>rfl
      | some q =>
        unfold World.cell? at g0
        split at g0 <;> simp at g0
    subst hs
    exact ⟨c0,c1,c2,c3,rfl,rfl,g0,g1,g2,g3⟩
def OpS (enc:TypeId × Value→H) (W:World) (fuel:Nat):Prop:=∀ (a:Option Addr) (len cap:Nat) (x:DataW H × List MemPlace),DataW.trod enc Tryz.prog W 0 (fun _=>true) true fuel 22 [.slice a len cap]=some x→WOk (x.1.weights Tryz.prog 22) →
  ∃ subs:List Lx.Ex,subs.length=len∧ExS W subs a 0∧LenE.LenS subs∧len≤2932031007402
def OpE (enc:TypeId × Value→H) (W:World) (fuel:Nat):Prop:=∀ (cs:List Value) (x:DataW H × List MemPlace),DataW.trod enc Tryz.prog W 0 (fun _=>true) true fuel 52 cs=some x→WOk (x.1.weights Tryz.prog 52) →
  ∃ (e:Lx.Ex) (op a b:Int) (sa:Option Addr) (n c:Nat),cs=[.int .i64 op,.int .i64 a,.int .i64 b,.slice sa n c]∧ExV W e (exV op a b sa n c)∧LenE e
set_option maxRecDepth 100000 in
theorem opE_succ {fuel:Nat} (ih:OpS enc W fuel):OpE enc W (fuel+1):=by
  intro cs x h hw
  obtain ⟨xs,n,hn,rfl,hcl,hxl,hf⟩:=DataW.trod_struct Tryz.underlying52 h
  obtain rfl:n=fuel:=by omega
  rw [oCells52] at hcl
  have hxl4:xs.length=4:=hxl
  match cs,hcl,xs,hxl4 with
  | [c0,c1,c2,c3],_,[x0,x1,x2,x3],_ =>
    have f0:DataW.trod enc Tryz.prog W 0 (fun _=>true) true n 3 (([c0,c1,c2,c3].drop 0).take (Tryz.prog.cellsOf 3))=some x0:=hf 0 _ rfl
    have f1:DataW.trod enc Tryz.prog W 0 (fun _=>true) true n 3 (([c0,c1,c2,c3].drop 1).take (Tryz.prog.cellsOf 3))=some x1:=hf 1 _ rfl
    have f2:DataW.trod enc Tryz.prog W 0 (fun _=>true) true n 3 (([c0,c1,c2,c3].drop 2).take (Tryz.prog.cellsOf 3))=some x2:=hf 2 _ rfl
    have f3:DataW.trod enc Tryz.prog W 0 (fun _=>true) true n 22 (([c0,c1,c2,c3].drop 3).take (Tryz.prog.cellsOf 22))=some x3:=hf 3 _ rfl
    simp only [oCells3,oCells22,List.drop_zero,List.drop_succ_cons,List.take_succ_cons,List.take_zero,List.getElem?_cons_zero,List.getElem?_cons_succ] at f0 f1 f2 f3
    obtain ⟨op,e0,rfl,_⟩:=DataW.trod_int Tryz.underlying3 f0
    obtain ⟨a,e1,rfl,_⟩:=DataW.trod_int Tryz.underlying3 f1
    obtain ⟨b,e2,rfl,_⟩:=DataW.trod_int Tryz.underlying3 f2
    have hw3:WOk (x3.1.weights Tryz.prog 22):=by
      intro y hy
      apply hw y
      simp only [List.map_cons,List.map_nil]
      unfold DataW.weights
      rw [Tryz.underlying52]
      show y ∈ DataW.weightsEach Tryz.prog [3,3,3,22] _
      simp only [DataW.weightsEach,DataW.weights,List.nil_append,List.append_nil]
      exact hy
    have hs3:∃ sa len cap,[c3]=[Value.slice sa len cap]:=by
      rcases DataW.trod_slice Tryz.underlying22 f3 with ⟨h1,_⟩ | ⟨a',len,cap,_,_,_,_,h1,_⟩
      · exact ⟨_,_,_,h1⟩
      · exact ⟨_,_,_,h1⟩
    obtain ⟨sa,len,cap,hc3⟩:=hs3
    simp only [List.cons.injEq,and_true] at e0 e1 e2 hc3
    subst e0; subst e1; subst e2; subst hc3
    obtain ⟨subs,hl,hS,hL,hle⟩:=ih sa len cap x3 f3 hw3
    subst hl
    exact ⟨.mk op a b subs,op,a,b,sa,subs.length,cap,rfl,⟨sa,cap,rfl,hS⟩,hle,hL⟩
theorem add_b (a:Addr) (n:Nat):(a.add n).block=a.block:=by unfold Addr.add; split <;> rfl
theorem add_o (a:Addr) (n:Nat):(a.add n).off=a.off+n:=by
  unfold Addr.add
  split
  · rename_i h; rw [h]; rfl
  · rfl
set_option maxRecDepth 100000 in
theorem opS_succ {fuel:Nat} (ih:OpE enc W fuel):OpS enc W (fuel+1):=by
  intro a len cap x h hw
  rcases DataW.trod_slice Tryz.underlying22 h with ⟨h1,rfl⟩ | ⟨a',len',cap',elems,rest,n,hn,h1,rfl,_,hl,hc,hel,hg,_,_⟩
  · simp only [List.cons.injEq,Value.slice.injEq,and_true] at h1
    obtain ⟨rfl,rfl,rfl⟩:=h1
    exact ⟨[],rfl,trivial,trivial,by decide⟩
  · simp only [List.cons.injEq,Value.slice.injEq,and_true] at h1
    obtain ⟨rfl,rfl,rfl⟩:=h1
    obtain rfl:n=fuel:=by omega
    have hwt:WOk (((elems.map (·.1)).length * 48+(rest.map (·.1)).length * 48)::(DataW.weightsAll Tryz.prog 52 (elems.map (·.1)))):=by
      intro y hy
      have hw2:∀ z ∈ (DataW.slice (elems.map (·.1)) (rest.map (·.1))).weights Tryz.prog 22,z≤reachBytes:=hw
      unfold DataW.weights at hw2
      rw [Tryz.underlying22] at hw2
      rcases List.mem_cons.1 hy with rfl | hy
      · rw [← Nat.add_mul,← oBytes52]; exact hw2 _ List.mem_cons_self
      · exact hw2 _ (List.mem_cons_of_mem _ (List.mem_append.2 (.inl hy)))
    have hlen:elems.length≤2932031007402:=by
      have h0:=hwt _ List.mem_cons_self
      simp only [List.length_map] at h0
      have h2:reachBytes=140737488351232:=rfl
      omega
    have hwe:WOk (DataW.weightsAll Tryz.prog 52 (elems.map (·.1))):=fun y hy=>hwt y (List.mem_cons_of_mem _ hy)
    rw [oCells52] at hg
    have key:∀ k,k≤elems.length→∃ subs:List Lx.Ex,subs.length=k∧ExS W subs (some a') (elems.length - k)∧LenE.LenS subs:=by
      intro k
      induction k with
      | zero=>exact fun _=>⟨[],rfl,trivial,trivial⟩
      | succ k ih2 =>
        intro hk
        obtain ⟨subs,hsl,hS,hL⟩:=ih2 (by omega)
        have hi:elems.length - (k+1)<elems.length:=by omega
        have h3:=hg (elems.length - (k+1)) (by omega)
        rw [List.getElem?_eq_getElem hi] at h3
        obtain ⟨cs,hcs,ht⟩:=Option.bind_eq_some_iff.1 h3
        obtain ⟨e,op,av,b,sa,n2,c,rfl,hv,hLe⟩:=ih cs _ ht (wok_all hwe (List.mem_map.2 ⟨_,List.getElem_mem hi,rfl⟩))
        obtain ⟨c0,c1,c2,c3,hc,hsp,k0,k1,k2,k3⟩:=cells4 hcs
        simp only [List.cons.injEq,and_true] at hc
        obtain ⟨rfl,rfl,rfl,rfl⟩:=hc
        rw [add_b,add_o] at k0 k1 k2 k3
        have hspot:a'=⟨a'.block,a'.off,none⟩:=by
          have h4:=hg 0 (by omega)
          rw [List.getElem?_eq_getElem (by omega)] at h4
          obtain ⟨cs4,hcs4,ht4⟩:=Option.bind_eq_some_iff.1 h4
          obtain ⟨e',op',av',b',sa',n',c',rfl,_⟩:=ih cs4 _ ht4 (wok_all hwe (List.mem_map.2 ⟨_,List.getElem_mem (by omega),rfl⟩))
          obtain ⟨_,_,_,_,_,hs,_⟩:=cells4 hcs4
          rw [Nat.zero_mul] at hs
          have hs':a'.spot=none:=hs
          obtain ⟨b0,o0,s0⟩:=a'
          simp only at hs'
          rw [hs']
        refine ⟨e::subs,by simp [hsl],⟨⟨a'.block,a'.off,op,av,b,sa,n2,c,by rw [← hspot],k0,k1,k2,k3,hv⟩,?_⟩,hLe,hL⟩
        rw [show elems.length - (k+1)+1=elems.length - k from by omega]
        exact hS
    obtain ⟨subs,h1,h2,h3⟩:=key elems.length (Nat.le_refl _)
    rw [Nat.sub_self] at h2
    exact ⟨subs,by omega,h2,h3,by omega⟩
theorem opBoth (fuel:Nat):OpS enc W fuel∧OpE enc W fuel:=by
  induction fuel with
  | zero=>exact ⟨fun _ _ _ _ h=>by simp [DataW.trod] at h,fun _ _ h=>by simp [DataW.trod] at h⟩
  | succ n ih=>exact ⟨opS_succ ih.2,opE_succ ih.1⟩
theorem open_rules {a:Option Addr} {len cap:Nat} {d:DataW H} {p:List MemPlace} (h:DataW.Trod enc Tryz.prog W 0 (fun _=>true) true 22 (.slice a len cap) d p) (hw:∀ x ∈ d.weights Tryz.prog 22,x≤reachBytes) :
    ∃ subs:List Lx.Ex,subs.length=len∧ExS W subs a 0∧LenE.LenS subs:=by
  obtain ⟨fuel,hf⟩:=h
  obtain ⟨subs,h1,h2,h3,_⟩:=(opBoth fuel).1 a len cap _ hf hw
  exact ⟨subs,h1,h2,h3⟩
end Go.Proofs.YtbcngfgemjdllaaGreatDoor
end
section
namespace Go.Proofs.YtbcngfgemjdllaaGreatDoor
open Go
theorem jf_of {P:Program} {f:FuncId} {fn:Func} {s:ChangeSpec} {c:OpenClaim}
    (h1:(c.wf (OpenSpec.ofChange s))=true) (h2:laidOutB P=true) (h3:mapsRowed P=true) (h4:fn.params.all (P.readableRec ·)=true) (h5:namedTie P c.named s.vars=true)
    (h6:((c.stops == []) && (P.stops == []) && (c.knobs == []) && (P.stopKnobs == []))=true)
    (h7:(c.inPlace == P.inPlace f)=true) (h8:(c.unfollowed == P.unfollowed f)=true) (h9:(c.recurses == P.recurses f)=true) (h10:(c.named == P.varsNamed f)=true)
    (h11:((c.maps == (fn.params.toList++s.plain.varTypes P).any (P.mapsRec ·)) && (c.ifaces == (fn.params.toList++s.plain.varTypes P).any (P.ifacesRec ·)) && (c.mapsOut == P.mapsAmong fn.resultTypes.toList))=true)
    (h12:((c.loops == (fn.params.toList++s.plain.varTypes P).any (P.loopsFrom ·)) && (c.wideKeys == (fn.params.toList++s.plain.varTypes P++fn.resultTypes.toList).any (P.wideKeysFrom ·)))=true)
    (h13:(s.vars.all (P.varReadable ·) && fn.resultTypes.all (fun t=>P.readableRec t && decide (t<P.types.size)) && (c.ifacesOut == fn.resultTypes.toList.any (P.ifacesRec ·)) && (c.loopsOut == fn.resultTypes.toList.any (P.loopsFrom ·)))=true)
    (h14:(c.plainKeys == P.plainKeys)=true) (h15:c.shortTexts.isNone=true) (h16:P.stopsHeard=true) (h17:P.mayEnter=true) (h18:(c.lifted == P.liftsFinal)=true) (h19:(P.make == some c.make)=true)
    (h20:((c.kinds == (if c.domain.isEmpty then [] else fn.params.toList.map fun t=>match P.underlying t with | some (.int k)=>some k | _=>none)) && (c.pinned == c.pinnedBy))=true)
    (h21:(c.veiled == (fn.params.toList++s.plain.varTypes P++fn.resultTypes.toList).any (P.veiledRec ·))=true) (h22:c.veiledFits P fn.params.toList (fn.params.toList++s.plain.varTypes P++fn.resultTypes.toList)=true) :
    joinedFacts P f fn s c=true:=by
  simp only [Bool.and_eq_true,and_assoc] at h6 h11 h12 h13 h20
  unfold joinedFacts
  simp only [Bool.and_eq_true,and_assoc]
  exact ⟨h1,h2,h3,h4,h5,h6.1,h6.2.1,h6.2.2.1,h6.2.2.2,h7,h8,h9,h10,h11.1,h11.2.1,h11.2.2,h12.1,h12.2,h13.1,h13.2.1,h13.2.2.1,h13.2.2.2,h14,h15,h16,h17,h18,h19,h20.1,h20.2,h21,h22⟩
end Go.Proofs.YtbcngfgemjdllaaGreatDoor
end
