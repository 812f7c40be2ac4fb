/- Part 30: N2, W1, Z1, Z2. -/
import Derived.Test.YtbcngfgemjdllaaGreatDoorB19
set_option linter.unusedVariables false
set_option linter.unusedSimpArgs false
section
namespace Go.Proofs.YtbcngfgemjdllaaGreatDoor
open Go.RowKit Go.Own
theorem nt_cells {B:Nat} {w0 w:World} {r:List HP} {b:Nat} {T:TypeId} {v0 v1 v2 v3 v4:Value} (H:St B w0 (pts b T [v0,v1,v2,v3,v4]::r) w):w.cell? ⟨b,0,none⟩=some v0∧w.cell? ⟨b,1,none⟩=some v1∧w.cell? ⟨b,2,none⟩=some v2∧w.cell? ⟨b,3,none⟩=some v3∧w.cell? ⟨b,4,none⟩=some v4 :=
  ⟨H.cells.1 0,H.cells.1 1,H.cells.1 2,H.cells.1 3,H.cells.1 4⟩
theorem c34' {rs:List Lx.Ex} {sa:Option Addr} {c:Nat} {w0:World} (hl:rs.length≤1000) (hsz:Lx.sizes rs≤10000) (hg:∀ e ∈ rs,∃ d,Lx.good d e=true) (hS:ExS w0 rs sa 0) :
    Calls Tryz.prog 34 #[.slice sa rs.length c] w0 fun e' w'=>∃ (V:NV) (ru:Nat) (S:BS),S=cmK rs rs.length ru∧e'=.returned (.agg #[.slice V.a1 S.sts.length V.c1,.slice V.a2 S.st.length V.c2,.slice V.a3 S.kd.length V.c3,.slice V.a4 S.ed.length V.c4,.slice V.a5 S.dc.length V.c5])∧St w0.heap.size w0 (V.rows S) w':=by
  refine (c34 hl hsz hg hS).mono ?_
  rintro e w' ⟨V,ru,h1,h2⟩
  exact ⟨V,ru,_,rfl,h1,h2⟩
set_option maxRecDepth 100000 in
set_option maxHeartbeats 4000000 in
theorem c21 {rs:List Lx.Ex} {sa:Option Addr} {c:Nat} {w0:World} (hl:rs.length≤1000) (hsz:Lx.sizes rs≤10000) (hg:∀ e ∈ rs,∃ d,Lx.good d e=true) (hS:ExS w0 rs sa 0) :
    Calls Tryz.prog 21 #[.slice sa rs.length c] w0 fun e' w'=>∃ (V:NV) (ru:Nat),e'=.returned (.agg (V.cells (cmK rs rs.length ru)).toArray)∧NetV w' V (cmK rs rs.length ru)∧Below w0.heap.size w0 w':=by
  have H0:=(St.nil w0).alloc (ob 48 zNt)
  have h34:=c34' (w0:=w0.alloc (ob 48 zNt)) (c:=c) hl hsz hg (hS.mono H0.below)
  have H34:=Lib.hid h34
  have HT:=Lib.hid H0
  have hb:∀ ru,(cmK rs rs.length ru).sts.length<1000000∧(cmK rs rs.length ru).ed.length<1000000:=fun ru=>by
    have h1:=cN_le (rs.take rs.length)
    have h2:=cEdg_le (rs.take rs.length) 1
    have h3:=sizes_take rs rs.length
    refine ⟨by rw [cmK_len]; omega,?_⟩
    simp only [cmK]; omega
  clear hS hg h34 H0
  go_enter Tryz.func21,Tryz.ntmps21
  go_wp2_with (first
    | (go_at_call 34; refine H34.out.mono ?_; rintro e w1 ⟨V,ru,S,hSS,rfl,h⟩
       have hbb:=hb ru
       rw [← hSS] at hbb
       have HSS:=Lib.hid hSS
       clear hSS
       have HN:=NetV.of (r:=[]) (by rw [List.append_nil]; exact h)
       have HT1:St w0.heap.size w0 [V.r1 S,V.r2 S,V.r3 S,V.r4 S,V.r5 S,pts w0.heap.size 48 zNt] w1:=HT.out.over_base h
       have H1:=((St.nil w1).alloc (ob 85 (V.cells S))).alloc (ob 48 (ntC V S (.slice none 0 0) (.slice none 0 0)))
       have hz:(w1.alloc (ob 85 (V.cells S))).heap.size=w1.heap.size+1:=Array.size_push _
       rw [hz] at H1
       clear hz h))
  obtain ⟨hb1,hb2⟩:=hbb
  have HHN:=Lib.hid HN
  have HHT:=Lib.hid HT1
  clear hb HN HT1 H34 HT
  go_loopw [21] (N1Rel w1 V S) (fun i _=>S.sts.length - (intOf i).toNat)
  case atStart =>
    refine ⟨0,none,0,Nat.zero_le _,rfl,?_⟩
    rw [List.take_zero]
    exact (St.ownNil H1 89 3).pick 1
  case round =>
    clear H1
    obtain ⟨k,a,c1,hk,rfl,H1⟩:=hrel
    by_cases hlt:k<S.sts.length
    · obtain ⟨g,hga,hgc⟩:=(HHN.out.mono H1.below).r1.get (f:=stC) (n:=3) (fun _=>rfl) (by omega) (List.getElem?_eq_getElem hlt)
      have hk0:(0:Int)≤(k:Int):=Int.natCast_nonneg _
      have hk1:(k:Int)<(S.sts.length:Int):=by omega
      have e0:wr.cell? ⟨g,k * 3,none⟩=some (.int .i64 (S.sts[k].1:Int)):=hgc 0 _ rfl
      have e1:wr.cell? ⟨g,k * 3+1,none⟩=some (.int .i64 (S.sts[k].2.1:Int)):=hgc 1 _ rfl
      have e2:wr.cell? ⟨g,k * 3+2,none⟩=some (.int .i64 (S.sts[k].2.2:Int)):=hgc 2 _ rfl
      have hft:=flat_take (f:=stC) (List.getElem?_eq_getElem hlt)
      have hw:=wrapS hlt (by omega)
      have Hw:=Lib.hid hw
      have Hft:=Lib.hid hft
      obtain ⟨t0,_,_,_,_⟩:=nt_cells H1
      have x0:=World.block_lt_of_cell? _ _ t0
      have hn : ¬ w1.heap.size+1=wr.heap.size:=by simp only at x0; omega
      have Ha:=((H1.alloc (ob 88 (stC S.sts[k]))).alloc (ob 89 (stC S.sts[k])))
      rw [show (wr.alloc (ob 88 (stC S.sts[k]))).heap.size=wr.heap.size+1 from Array.size_push _] at Ha
      have HA:=Lib.hid ((Ha.pick 3).pick 1)
      rw [hga]
      clear hw hft hgc H1 Ha
      go_wp2_with (first
        | (at_builtin; go_must (refine wpList_append1_st rfl _ _ rfl sl44 (g:=wr.heap.size+1) (news:=stC S.sts[k]) HA.out rfl 1 rfl rfl rfl (by simp [stC,Value.oneCell']) (by simp only [maxLen]; omega) (by omega) ?_)
           intro a5 c5 w5 H5
           obtain ⟨q0,_,_,_,_⟩:=nt_cells (H5.pick 2)
           have q0f:=(H5.pick 2).cells.2 0
           have H6:=(H5.pick 2).setCell (off:=0) (.slice a5 (k+1) c5)
           clear H5))
      first | rw [Hw.out] | rw [show ((k:Int)+1)=((k+1:Nat):Int) from by omega]
      refine ⟨⟨k+1,a5,c5,hlt,rfl,?_⟩,measS hlt⟩
      rw [← Hft.out]
      exact (H6.pick 2).drop
    · have hk1 : ¬ (k:Int)<(S.sts.length:Int):=by omega
      have hkl:k=S.sts.length:=by omega
      subst hkl
      rw [List.take_length] at H1
      obtain ⟨_,_,_,y3,_⟩:=nt_cells (H1.pick 2)
      go_wp2_with fail
      go_loopw [41] (N2Rel w1 V S a c1) (fun i _=>S.ed.length - (intOf i).toNat)
      case atStart =>
        refine ⟨0,none,0,Nat.zero_le _,rfl,?_⟩
        rw [List.take_zero]
        exact (St.ownNil H1 92 6).pick 1
      case round =>
        clear H1 y3
        obtain ⟨k,a4,c4,hk,rfl,H1⟩:=hrel
        by_cases hlt:k<S.ed.length
        · obtain ⟨g,hga,hgc⟩:=(HHN.out.mono H1.below).r4.get (f:=edC) (n:=6) (fun _=>rfl) (by omega) (List.getElem?_eq_getElem hlt)
          have hk0:(0:Int)≤(k:Int):=Int.natCast_nonneg _
          have hk1:(k:Int)<(S.ed.length:Int):=by omega
          have e0:wr.cell? ⟨g,k * 6,none⟩=some (.int .i64 (S.ed[k].src:Int)):=hgc 0 _ rfl
          have e1:wr.cell? ⟨g,k * 6+1,none⟩=some (.int .i64 (S.ed[k].to:Int)):=hgc 1 _ rfl
          have e2:wr.cell? ⟨g,k * 6+2,none⟩=some (.int .i64 S.ed[k].kind):=hgc 2 _ rfl
          have e3:wr.cell? ⟨g,k * 6+3,none⟩=some (.int .i64 S.ed[k].a1):=hgc 3 _ rfl
          have e4:wr.cell? ⟨g,k * 6+4,none⟩=some (.int .i64 S.ed[k].a2):=hgc 4 _ rfl
          have e5:wr.cell? ⟨g,k * 6+5,none⟩=some (.int .i64 0):=hgc 5 _ rfl
          have hft:=flat_take (f:=edC) (List.getElem?_eq_getElem hlt)
          have hw:=wrapS hlt (by omega)
          have Hw:=Lib.hid hw
          have Hft:=Lib.hid hft
          obtain ⟨_,_,_,t3,_⟩:=nt_cells H1
          have x0:=World.block_lt_of_cell? _ _ t3
          have hn : ¬ w1.heap.size+1=wr.heap.size:=by simp only at x0; omega
          have Ha:=((H1.alloc (ob 91 (edC S.ed[k]))).alloc (ob 92 (edC S.ed[k])))
          rw [show (wr.alloc (ob 91 (edC S.ed[k]))).heap.size=wr.heap.size+1 from Array.size_push _] at Ha
          have HA:=Lib.hid ((Ha.pick 3).pick 1)
          rw [hga]
          clear hw hft hgc H1 Ha
          go_wp2_with (first
            | (at_builtin; go_must (refine wpList_append1_st rfl _ _ rfl sl46 (g:=wr.heap.size+1) (news:=edC S.ed[k]) HA.out rfl 1 rfl rfl rfl (by simp [edC,Value.oneCell']) (by simp only [maxLen]; omega) (by omega) ?_)
               intro a5 c5 w5 H5
               obtain ⟨_,_,_,q3,_⟩:=nt_cells (H5.pick 2)
               have q3f:=(H5.pick 2).cells.2 3
               have H6:=(H5.pick 2).setCell (off:=3) (.slice a5 (k+1) c5)
               clear H5))
          first | rw [Hw.out] | rw [show ((k:Int)+1)=((k+1:Nat):Int) from by omega]
          refine ⟨⟨k+1,a5,c5,hlt,rfl,?_⟩,measS hlt⟩
          rw [← Hft.out]
          exact (H6.pick 2).drop
        · have hk1 : ¬ (k:Int)<(S.ed.length:Int):=by omega
          have hkl:k=S.ed.length:=by omega
          subst hkl
          rw [List.take_length] at H1
          obtain ⟨t0,t1,t2,t3,t4⟩:=nt_cells H1
          have HE:=HHT.out.over_base H1
          have H2:St w0.heap.size w0 (pts w0.heap.size 48 zNt::[pts (w1.heap.size+1) 48 (ntC V S (.slice a S.sts.length c1) (.slice a4 S.ed.length c4)),Osl (.slice a4 S.ed.length c4) 92 6 S.ed.length (S.ed.flatMap edC),Osl (.slice a S.sts.length c1) 89 3 S.sts.length (S.sts.flatMap stC),pts w1.heap.size 85 (V.cells S),V.r1 S,V.r2 S,V.r3 S,V.r4 S,V.r5 S]) wr:=HE.pick 9
          obtain ⟨y0,y1,y2,y3,y4⟩:=nt_cells H2
          have yf:=H2.cells.2
          have H6:=((((H2.setCell (off:=0) (.slice a S.sts.length c1)).setCell (off:=1) (.slice V.a2 S.st.length V.c2)).setCell (off:=2) (.slice V.a3 S.kd.length V.c3)).setCell (off:=3) (.slice a4 S.ed.length c4)).setCell (off:=4) (.slice V.a5 S.dc.length V.c5)
          obtain ⟨p0,p1,p2,p3,p4⟩:=nt_cells (v0:=.slice a S.sts.length c1) (v1:=.slice V.a2 S.st.length V.c2) (v2:=.slice V.a3 S.kd.length V.c3) (v3:=.slice a4 S.ed.length c4) (v4:=.slice V.a5 S.dc.length V.c5) H6
          have hN:NetV _ { V with a1:=a,c1:=c1,a4:=a4,c4:=c4 } S:=⟨RowAt.of (H6.pick 3),RowAt.of (H6.pick 6),RowAt.of (H6.pick 7),RowAt.of (H6.pick 2),RowAt.of (H6.pick 9)⟩
          have HNN:=Lib.hid hN
          have Hbel:=Lib.hid H6.below
          clear H1 H2 H6 HE hN HHN HHT
          go_wp2_with fail
          refine bodyPost_ret (v:=.agg (({ V with a1:=a,c1:=c1,a4:=a4,c4:=c4 } : NV).cells S).toArray) ?_ rfl ⟨{ V with a1:=a,c1:=c1,a4:=a4,c4:=c4 },ru,by rw [← HSS.out],by rw [← HSS.out]; exact HNN.out,Hbel.out⟩
          clear HNN Hbel
          generalize (World.setCell _ _ _)=W at p0 p1 p2 p3 p4 ⊢
          simp [results,Tryz.results21,go_sem,p0,p1,p2,p3,p4,NV.cells]
end Go.Proofs.YtbcngfgemjdllaaGreatDoor
end
section
namespace Go.Proofs.YtbcngfgemjdllaaGreatDoor
open Go.RowKit Go.Own
def i32 (ys:List Int):List Value:=ys.map fun y=>.int .i32 y
def i64L (ys:List Int):List Value:=ys.map fun y=>.int .i64 y
theorem sl124:SlT Tryz.prog 124 21 1 4 (.int .i32 0):=⟨by kernel_rfl,sl_inf' (by kernel_rfl),by kernel_rfl,by decide⟩
structure OutW (B:Nat) (w0:World) (b:Nat) (ys:List Int) (r:List HP) (w:World):Prop where
  ex:∃ a c,St B w0 (pts b 124 [.slice a ys.length c]::Osl (.slice a ys.length c) 21 1 ys.length (i32 ys)::r) w
structure RdX (B:Nat) (w0:World) (P:HP) (a:Option Addr) (xs:List Int):Prop where
  row:xs≠[]→∃ g,a=some ⟨g,0,none⟩∧∀ l w,St B w0 (P::l) w→∀ j x,xs[j]? = some x→w.cell? ⟨g,j,none⟩=some (.int .i64 x)
theorem RdX.new {B:Nat} {w0:World} {g:Nat} {xs:List Int} : RdX B w0 (pts g 3 (i64L xs)) (some ⟨g,0,none⟩) xs:=⟨fun _=>⟨g,rfl,fun l w H j x hj=>by rw [H.cells.1]; simp [i64L,hj]⟩⟩
theorem RdX.nil {B:Nat} {w0:World} {P:HP} {a:Option Addr} : RdX B w0 P a []:=⟨fun h=>absurd rfl h⟩
def PtRel (B:Nat) (w0:World) (b:Nat) (ys xs:List Int) (r:List HP) (i:Value) (wr:World):Prop:=∃ k:Nat,k≤xs.length∧i=.int .i64 k∧OutW B w0 b (ys++xs.take k) r wr
theorem OutW.part {B:Nat} {w0 w:World} {b:Nat} {ys:List Int} {P:HP} {r:List HP} (H:OutW B w0 b ys (P::r) w):∃ l,St B w0 (P::l) w:=by
  obtain ⟨a,c,H⟩:=H.ex
  exact ⟨_,H.pick 2⟩
theorem OutW.drop {B:Nat} {w0 w:World} {b:Nat} {ys:List Int} {P:HP} {r:List HP} (H:OutW B w0 b ys (P::r) w):OutW B w0 b ys r w:=by
  obtain ⟨a,c,H⟩:=H.ex
  exact ⟨a,c,(H.pick 2).drop⟩
theorem OutW.alloc {B:Nat} {w0 w:World} {b:Nat} {ys:List Int} {r:List HP} (H:OutW B w0 b ys r w) (T:TypeId) (l:List Value):OutW B w0 b ys (pts w.heap.size T l::r) (w.alloc (ob T l)):=by
  obtain ⟨a,c,H⟩:=H.ex
  exact ⟨a,c,((H.alloc (ob T l)).pick 1 |>.perm ((List.Perm.swap _ _ _).cons _))⟩
theorem OutW.perm {B:Nat} {w0 w:World} {b:Nat} {ys:List Int} {r r':List HP} (H:OutW B w0 b ys r w) (p:r.Perm r'):OutW B w0 b ys r' w:=by
  obtain ⟨a,c,H⟩:=H.ex
  exact ⟨a,c,H.perm ((p.cons _).cons _)⟩
theorem OutW.below {B:Nat} {w0 w:World} {b:Nat} {ys:List Int} {r:List HP} (H:OutW B w0 b ys r w):Below B w0 w:=by
  obtain ⟨a,c,H⟩:=H.ex
  exact H.below
set_option maxRecDepth 100000 in
set_option maxHeartbeats 2000000 in
theorem c65 {B:Nat} {w0 w:World} {b c n:Nat} {a:Option Addr} {ys xs:List Int} {P:HP} {r:List HP} (hn:n=xs.length) (hl:ys.length+xs.length<1000000000) (hx:∀ x ∈ xs,-2147483648≤x∧x<2147483648) (hP:RdX B w0 P a xs) (H:OutW B w0 b ys (P::r) w) :
    Calls Tryz.prog 65 #[.slice a n c,.pointer (some ⟨b,0,none⟩)] w fun e w'=>e=.returned (.tuple #[])∧OutW B w0 b (ys++xs) (P::r) w':=by
  subst hn
  have HP':=Lib.hid hP
  have Hx:=Lib.hid hx
  clear hP hx
  go_enter Tryz.func65,Tryz.ntmps65
  go_wp2_with fail
  go_loopw [7] (PtRel B w0 b ys xs (P::r)) (fun i _=>xs.length - (intOf i).toNat)
  case atStart=>exact ⟨0,Nat.zero_le _,rfl,by rw [List.take_zero,List.append_nil]; exact H⟩
  case round =>
    clear H
    obtain ⟨k,hk,rfl,H1⟩:=hrel
    by_cases hlt:k<xs.length
    · obtain ⟨g,hga,hgc⟩:=HP'.out.row (by intro e; rw [e] at hlt; simp at hlt)
      obtain ⟨l,Hl⟩:=H1.part
      have hc:=hgc _ _ Hl k _ (List.getElem?_eq_getElem hlt)
      have hk0:(0:Int)≤(k:Int):=Int.natCast_nonneg _
      have hk1:(k:Int)<(xs.length:Int):=by omega
      have hxr:=Hx.out _ (List.getElem_mem hlt)
      have hw:=wrapS hlt (by omega)
      have Hw:=Lib.hid hw
      obtain ⟨a1,c1,H2⟩:=H1.ex
      have q0:=H2.cells.1 0
      simp only [List.getElem?_cons_zero] at q0
      have Htk:=Lib.hid (show (ys++xs.take k)++[xs[k]]=ys++xs.take (k+1) by rw [List.append_assoc,List.take_add_one,List.getElem?_eq_getElem hlt]; rfl)
      have hlk:(ys++xs.take k).length=ys.length+k:=by rw [List.length_append,List.length_take]; omega
      generalize ys++xs.take k=zs at H1 H2 q0 Htk hlk
      generalize xs[k]=x at hc hxr Htk
      have hzl:zs.length<2000000000:=by omega
      clear hlk
      have hcv:wrap32 x=x:=by unfold wrap32; omega
      have Ha:=(H2.alloc (ob 21 [.int .i32 x])).pick 2 |>.pick 1
      have HA:=Lib.hid Ha
      rw [hga]
      clear hw hgc Hl H1 H2 Ha
      go_wp2_with (first
        | (at_builtin; go_must (refine wpList_append1_st rfl _ _ rfl sl124 (g:=wr.heap.size) (news:=[.int .i32 x]) HA.out rfl 1 rfl rfl rfl (by simp [Value.oneCell']) (by simp only [maxLen]; omega) (by omega) ?_)
           intro a5 c5 w5 H5
           have q5:=(H5.pick 1).cells.1 0
           have q5f:=(H5.pick 1).cells.2 0
           simp only [List.getElem?_cons_zero] at q5
           have H6:=(H5.pick 1).setCell (off:=0) (.slice a5 (zs.length+1) c5)
           clear H5))
      first | rw [Hw.out] | rw [show ((k:Int)+1)=((k+1:Nat):Int) from by omega]
      refine ⟨⟨k+1,hlt,rfl,?_⟩,measS hlt⟩
      rw [← Htk.out]
      refine ⟨a5,c5,?_⟩
      simp only [List.length_append,List.length_cons,List.length_nil,Nat.zero_add,i32,List.map_append,List.map_cons,List.map_nil]
      exact H6
    · have hk1 : ¬ (k:Int)<(xs.length:Int):=by omega
      have hkl:k=xs.length:=by omega
      rw [hkl,List.take_length] at H1
      clear hkl
      go_wp2_with fail
      go_end0
      exact ⟨rfl,H1⟩
end Go.Proofs.YtbcngfgemjdllaaGreatDoor
end
section
namespace Go.Proofs.YtbcngfgemjdllaaGreatDoor
open Go.RowKit Go.Own
variable {B:Nat} {w0 w:World} {r:List HP} {b:Nat} {T:TypeId} {cs:List Value}
theorem c290 {u:Value} {a:Nat} (H:St B w0 (pts b T cs::r) w) (h:cs[1]? = some u):Calls Tryz.prog 290 #[.pointer (some ⟨b,0,none⟩),.pointer (some ⟨a,0,none⟩)] w fun e w'=>e=.returned (.tuple #[])∧St B w0 (pts b T (cs.set 1 (.pointer (some ⟨a,0,none⟩)))::r) w':=by
  have q:=H.cells.1 1
  rw [h] at q
  have qf:=H.cells.2 1
  go_enter Tryz.func290,Tryz.ntmps290
  go_wp2_with fail
  go_end0
  exact ⟨rfl,H.setCell (off:=1) _⟩
theorem c292 {u:Value} {x:Int} (H:St B w0 (pts b T cs::r) w) (h:cs[3]? = some u):Calls Tryz.prog 292 #[.pointer (some ⟨b,0,none⟩),.int .i64 x] w fun e w'=>e=.returned (.tuple #[])∧St B w0 (pts b T (cs.set 3 (.int .i64 x))::r) w':=by
  have q:=H.cells.1 3
  rw [h] at q
  have qf:=H.cells.2 3
  go_enter Tryz.func292,Tryz.ntmps292
  go_wp2_with fail
  go_end0
  exact ⟨rfl,H.setCell (off:=3) _⟩
theorem c293 {u:Value} {x:Int} (H:St B w0 (pts b T cs::r) w) (h:cs[4]? = some u):Calls Tryz.prog 293 #[.pointer (some ⟨b,0,none⟩),.int .i64 x] w fun e w'=>e=.returned (.tuple #[])∧St B w0 (pts b T (cs.set 4 (.int .i64 x))::r) w':=by
  have q:=H.cells.1 4
  rw [h] at q
  have qf:=H.cells.2 4
  go_enter Tryz.func293,Tryz.ntmps293
  go_wp2_with fail
  go_end0
  exact ⟨rfl,H.setCell (off:=4) _⟩
theorem c297 {u:Value} {x:Int} (H:St B w0 (pts b T cs::r) w) (h:cs[7]? = some u):Calls Tryz.prog 297 #[.pointer (some ⟨b,0,none⟩),.int .i64 x] w fun e w'=>e=.returned (.tuple #[])∧St B w0 (pts b T (cs.set 7 (.int .i64 x))::r) w':=by
  have q:=H.cells.1 7
  rw [h] at q
  have qf:=H.cells.2 7
  go_enter Tryz.func297,Tryz.ntmps297
  go_wp2_with fail
  go_end0
  exact ⟨rfl,H.setCell (off:=7) _⟩
theorem c327 {u:Value} {a:Nat} (H:St B w0 (pts b T cs::r) w) (h:cs[9]? = some u):Calls Tryz.prog 327 #[.pointer (some ⟨b,0,none⟩),.pointer (some ⟨a,0,none⟩)] w fun e w'=>e=.returned (.tuple #[])∧St B w0 (pts b T (cs.set 9 (.pointer (some ⟨a,0,none⟩)))::r) w':=by
  have q:=H.cells.1 9
  rw [h] at q
  have qf:=H.cells.2 9
  go_enter Tryz.func327,Tryz.ntmps327
  go_wp2_with fail
  go_end0
  exact ⟨rfl,H.setCell (off:=9) _⟩
def dzC (bo:Nat) (a:Option Addr) (n c:Nat) (pos:Nat):List Value:=[bP bo,.slice a n c,.int .i64 (pos:Int)]
set_option maxRecDepth 100000 in
set_option maxHeartbeats 1000000 in
theorem c117 {bo pos n c:Nat} {a:Option Addr} {xs:List Int} {x:Int} (hB:B=w0.heap.size) (hr:RowAt w0 a (i32 xs)) (hn:n=xs.length) (hx:xs[pos]? = some x) (hl:n<1000000000) (hi : -2147483648≤x∧x<2147483648) (H:St B w0 (pts b 251 (dzC bo a n c pos)::r) w) :
    Calls Tryz.prog 117 #[.pointer (some ⟨b,0,none⟩)] w fun e w'=>e=.returned (.int .i64 x)∧St B w0 (pts b 251 (dzC bo a n c (pos+1))::r) w':=by
  subst hn
  have hlt:pos<xs.length:=(List.getElem?_eq_some_iff.1 hx).1
  obtain ⟨g,rfl,hg⟩:=hr (by intro h; simp [i32] at h; simp [h] at hx)
  have h0:=hg pos (.int .i32 x) (by simp [i32,hx])
  have hlg:g<B:=by rw [hB]; exact World.block_lt_of_cell? _ _ h0
  have e0:∀ (W:World) (l:List HP),St B w0 l W→W.cell? ⟨g,pos,none⟩=some (.int .i32 x):=fun W l h=>by rw [h.old.1 g pos hlg]; exact h0
  have q1:w.cell? ⟨b,1,none⟩=some (.slice (some ⟨g,0,none⟩) xs.length c):=H.cells.1 1
  have q2:w.cell? ⟨b,2,none⟩=some (.int .i64 (pos:Int)):=H.cells.1 2
  have q2f:=H.cells.2 2
  have q1d:w.drew.cell? ⟨b,1,none⟩=some (.slice (some ⟨g,0,none⟩) xs.length c):=q1
  have q2d:w.drew.cell? ⟨b,2,none⟩=some (.int .i64 (pos:Int)):=q2
  have e1:=e0 _ _ H
  have e2:=e0 _ _ H.drew
  have hk0:(0:Int)≤(pos:Int):=Int.natCast_nonneg _
  have hk1:(pos:Int)<(xs.length:Int):=by omega
  have Hw:=Lib.hid (wrapS hlt (by omega))
  have hcv:IntKind.i64.wrap x=x:=by rw [IntKind.wrap_i64]; omega
  have HH:=Lib.hid H
  have Hh:=Lib.hid (And.intro h0 hlg)
  clear hg hr hx h0 hlg e0 H hi
  go_enter Tryz.func117,Tryz.ntmps117
  go_wp2_with (first | (go_quiet (fail)))
  go_ret
  have h:=(HH.out.drewN nq).setCell (off:=2) (.int .i64 ((pos:Int)+1))
  rw [show ((pos:Int)+1)=((pos+1:Nat):Int) from by omega] at h ⊢
  exact ⟨rfl,h⟩
end Go.Proofs.YtbcngfgemjdllaaGreatDoor
end
section
namespace Go.Proofs.YtbcngfgemjdllaaGreatDoor
open Go.RowKit Go.Own
def sT (k:Nat):TypeId:=match k with
  | 1=>427 | 2=>304 | 3=>422 | 4=>331 | 5=>467 | 6=>468 | 7=>307 | 8=>321 | 9=>334 | 10=>171 | 11=>325 | 12=>299 | _=>0
structure Sq where
  k:Nat
  ru:Int
  eo:Bool
  ta:Option Addr
  tc:Nat
  tl:List Value
  dec:Int
  en:Value
  lb:Value
  st:Value
def Sq.ex (q:Sq):List Value:=match q.k with
  | 2=>[q.st,.bool false] | 3=>[.int .i64 q.dec,.bool false,q.en] | 4=>[.int .i64 q.dec,.bool false,q.en,q.lb] | 5=>[.int .i64 q.dec,.bool false,q.en]
  | 6=>[.int .i64 q.dec,.bool false] | 8=>[q.st] | 10=>[.int .i64 q.dec,.bool false,q.lb,.bool false] | 11=>[.int .i64 q.dec,.bool false] | 12=>[q.lb] | _=>[]
def Sq.cells (at_:Value) (num:Int) (q:Sq):List Value:=[.pointer none,at_,.bool q.eo,.int .i64 q.ru,.int .i64 num,.int .i64 (q.k:Int),.slice q.ta q.tl.length q.tc]++q.ex
def sqP (at_:Value) (num:Int) (b:Nat) (q:Sq):HP:=star (pts b (sT q.k) (q.cells at_ num)) (Osl (.slice q.ta q.tl.length q.tc) 266 1 q.tl.length q.tl)
def sq0 (k:Nat) (ru:Int):Sq:=⟨k,ru,false,none,0,[],0,.pointer none,.nilIface,.nilIface⟩
variable {B:Nat} {w0 w:World} {r:List HP}
theorem c158 (H:St B w0 r w):Calls Tryz.prog 158 #[] w fun e w'=>e=.returned (.pointer (some ⟨w.heap.size,0,none⟩))∧St B w0 (pts w.heap.size 427 ((sq0 1 0).cells (.pointer none) (-1))::r) w':=by
  have H1:=H.alloc (ob 427 ((sq0 1 0).cells (.pointer none) (-1)))
  go_enter Tryz.func158,Tryz.ntmps158
  go_wp2_with fail
  go_ret
  exact ⟨rfl,H1⟩
theorem c159 (H:St B w0 r w):Calls Tryz.prog 159 #[] w fun e w'=>e=.returned (.pointer (some ⟨w.heap.size,0,none⟩))∧St B w0 (pts w.heap.size 304 ((sq0 2 0).cells (.pointer none) (-1))::r) w':=by
  have H1:=H.alloc (ob 304 ((sq0 2 0).cells (.pointer none) (-1)))
  go_enter Tryz.func159,Tryz.ntmps159
  go_wp2_with fail
  go_ret
  exact ⟨rfl,H1⟩
theorem c160 (H:St B w0 r w):Calls Tryz.prog 160 #[] w fun e w'=>e=.returned (.pointer (some ⟨w.heap.size,0,none⟩))∧St B w0 (pts w.heap.size 422 ((sq0 3 0).cells (.pointer none) (-1))::r) w':=by
  have H1:=H.alloc (ob 422 ((sq0 3 0).cells (.pointer none) (-1)))
  go_enter Tryz.func160,Tryz.ntmps160
  go_wp2_with fail
  go_ret
  exact ⟨rfl,H1⟩
theorem c161 (H:St B w0 r w):Calls Tryz.prog 161 #[] w fun e w'=>e=.returned (.pointer (some ⟨w.heap.size,0,none⟩))∧St B w0 (pts w.heap.size 331 ((sq0 4 0).cells (.pointer none) (-1))::r) w':=by
  have H1:=H.alloc (ob 331 ((sq0 4 0).cells (.pointer none) (-1)))
  go_enter Tryz.func161,Tryz.ntmps161
  go_wp2_with fail
  go_ret
  exact ⟨rfl,H1⟩
theorem c162 (H:St B w0 r w):Calls Tryz.prog 162 #[] w fun e w'=>e=.returned (.pointer (some ⟨w.heap.size,0,none⟩))∧St B w0 (pts w.heap.size 467 ((sq0 5 0).cells (.pointer none) (-1))::r) w':=by
  have H1:=H.alloc (ob 467 ((sq0 5 0).cells (.pointer none) (-1)))
  go_enter Tryz.func162,Tryz.ntmps162
  go_wp2_with fail
  go_ret
  exact ⟨rfl,H1⟩
theorem c163 (H:St B w0 r w):Calls Tryz.prog 163 #[] w fun e w'=>e=.returned (.pointer (some ⟨w.heap.size,0,none⟩))∧St B w0 (pts w.heap.size 468 ((sq0 6 0).cells (.pointer none) (-1))::r) w':=by
  have H1:=H.alloc (ob 468 ((sq0 6 0).cells (.pointer none) (-1)))
  go_enter Tryz.func163,Tryz.ntmps163
  go_wp2_with fail
  go_ret
  exact ⟨rfl,H1⟩
theorem c164 (H:St B w0 r w):Calls Tryz.prog 164 #[] w fun e w'=>e=.returned (.pointer (some ⟨w.heap.size,0,none⟩))∧St B w0 (pts w.heap.size 307 ((sq0 7 0).cells (.pointer none) (-1))::r) w':=by
  have H1:=H.alloc (ob 307 ((sq0 7 0).cells (.pointer none) (-1)))
  go_enter Tryz.func164,Tryz.ntmps164
  go_wp2_with fail
  go_ret
  exact ⟨rfl,H1⟩
theorem c165 (H:St B w0 r w):Calls Tryz.prog 165 #[] w fun e w'=>e=.returned (.pointer (some ⟨w.heap.size,0,none⟩))∧St B w0 (pts w.heap.size 321 ((sq0 8 0).cells (.pointer none) (-1))::r) w':=by
  have H1:=H.alloc (ob 321 ((sq0 8 0).cells (.pointer none) (-1)))
  go_enter Tryz.func165,Tryz.ntmps165
  go_wp2_with fail
  go_ret
  exact ⟨rfl,H1⟩
theorem c166 (H:St B w0 r w):Calls Tryz.prog 166 #[] w fun e w'=>e=.returned (.pointer (some ⟨w.heap.size,0,none⟩))∧St B w0 (pts w.heap.size 334 ((sq0 9 0).cells (.pointer none) (-1))::r) w':=by
  have H1:=H.alloc (ob 334 ((sq0 9 0).cells (.pointer none) (-1)))
  go_enter Tryz.func166,Tryz.ntmps166
  go_wp2_with fail
  go_ret
  exact ⟨rfl,H1⟩
theorem c167 (H:St B w0 r w):Calls Tryz.prog 167 #[] w fun e w'=>e=.returned (.pointer (some ⟨w.heap.size,0,none⟩))∧St B w0 (pts w.heap.size 171 ((sq0 10 0).cells (.pointer none) (-1))::r) w':=by
  have H1:=H.alloc (ob 171 ((sq0 10 0).cells (.pointer none) (-1)))
  go_enter Tryz.func167,Tryz.ntmps167
  go_wp2_with fail
  go_ret
  exact ⟨rfl,H1⟩
theorem c168 (H:St B w0 r w):Calls Tryz.prog 168 #[] w fun e w'=>e=.returned (.pointer (some ⟨w.heap.size,0,none⟩))∧St B w0 (pts w.heap.size 325 ((sq0 11 0).cells (.pointer none) (-1))::r) w':=by
  have H1:=H.alloc (ob 325 ((sq0 11 0).cells (.pointer none) (-1)))
  go_enter Tryz.func168,Tryz.ntmps168
  go_wp2_with fail
  go_ret
  exact ⟨rfl,H1⟩
theorem c169 (H:St B w0 r w):Calls Tryz.prog 169 #[] w fun e w'=>e=.returned (.pointer (some ⟨w.heap.size,0,none⟩))∧St B w0 (pts w.heap.size 299 ((sq0 12 0).cells (.pointer none) (-1))::r) w':=by
  have H1:=H.alloc (ob 299 ((sq0 12 0).cells (.pointer none) (-1)))
  go_enter Tryz.func169,Tryz.ntmps169
  go_wp2_with fail
  go_ret
  exact ⟨rfl,H1⟩
theorem cells_at {q:Sq} {a a':Value} {n:Int} : (q.cells a n).set 1 a'=q.cells a' n:=rfl
theorem cells_num {q:Sq} {a:Value} {n n':Int} : (q.cells a n).set 4 (.int .i64 n')=q.cells a n':=rfl
set_option maxRecDepth 100000 in
set_option maxHeartbeats 4000000 in
theorem c121 {bd:Nat} {k:Nat} {ru:Int} (hk:KOk k) (H:St B w0 r w):Calls Tryz.prog 121 #[.pointer (some ⟨bd,0,none⟩),.int .i64 (k:Int),.int .i64 ru] w fun e w'=>e=.returned (.iface (ty k) (.pointer (some ⟨w.heap.size,0,none⟩)))∧St B w0 (sqP (.pointer none) (-1) w.heap.size (sq0 k ru)::r) w':=by
  have hfin:∀ w',St B w0 (pts w.heap.size (sT k) ((sq0 k ru).cells (.pointer none) (-1))::r) w'→St B w0 (sqP (.pointer none) (-1) w.heap.size (sq0 k ru)::r) w':=fun w' h=>by
    refine St.join ?_
    exact (St.ownNil h 266 1).pick 1
  have Hfin:=Lib.hid hfin
  have HH:=Lib.hid H
  clear hfin H
  rcases hk.cases with rfl | rfl | rfl | rfl | rfl | rfl | rfl | rfl | rfl | rfl | rfl | rfl
  · have hm : ∀ w', (method 734 364 (.pointer (some ⟨w.heap.size, 0, none⟩)) "SetRuleIndex").run Tryz.prog w' = .ok (292, .pointer (some ⟨w.heap.size, 0, none⟩)) w' := fun w' => m_st_SetRuleIndex (k := 1) ⟨by omega, by omega⟩ _ w'
    go_enter Tryz.func121,Tryz.ntmps121
    go_wp2_with (first
      | (go_at_call 158; refine (c158 HH.out).mono ?_; rintro e w1 ⟨rfl,h1⟩
         have H1:=Lib.hid h1
         clear h1)
      | (go_at_call 292; refine (c292 H1.out rfl).mono ?_; rintro e w2 ⟨rfl,h2⟩
         have H2:=Lib.hid h2
         clear h2))
    go_ret
    exact ⟨rfl,Hfin.out _ H2.out⟩
  · have hm : ∀ w', (method 734 305 (.pointer (some ⟨w.heap.size, 0, none⟩)) "SetRuleIndex").run Tryz.prog w' = .ok (292, .pointer (some ⟨w.heap.size, 0, none⟩)) w' := fun w' => m_st_SetRuleIndex (k := 2) ⟨by omega, by omega⟩ _ w'
    go_enter Tryz.func121,Tryz.ntmps121
    go_wp2_with (first
      | (go_at_call 159; refine (c159 HH.out).mono ?_; rintro e w1 ⟨rfl,h1⟩
         have H1:=Lib.hid h1
         clear h1)
      | (go_at_call 292; refine (c292 H1.out rfl).mono ?_; rintro e w2 ⟨rfl,h2⟩
         have H2:=Lib.hid h2
         clear h2))
    go_ret
    exact ⟨rfl,Hfin.out _ H2.out⟩
  · have hm : ∀ w', (method 734 367 (.pointer (some ⟨w.heap.size, 0, none⟩)) "SetRuleIndex").run Tryz.prog w' = .ok (292, .pointer (some ⟨w.heap.size, 0, none⟩)) w' := fun w' => m_st_SetRuleIndex (k := 3) ⟨by omega, by omega⟩ _ w'
    go_enter Tryz.func121,Tryz.ntmps121
    go_wp2_with (first
      | (go_at_call 160; refine (c160 HH.out).mono ?_; rintro e w1 ⟨rfl,h1⟩
         have H1:=Lib.hid h1
         clear h1)
      | (go_at_call 292; refine (c292 H1.out rfl).mono ?_; rintro e w2 ⟨rfl,h2⟩
         have H2:=Lib.hid h2
         clear h2))
    go_ret
    exact ⟨rfl,Hfin.out _ H2.out⟩
  · have hm : ∀ w', (method 734 326 (.pointer (some ⟨w.heap.size, 0, none⟩)) "SetRuleIndex").run Tryz.prog w' = .ok (292, .pointer (some ⟨w.heap.size, 0, none⟩)) w' := fun w' => m_st_SetRuleIndex (k := 4) ⟨by omega, by omega⟩ _ w'
    go_enter Tryz.func121,Tryz.ntmps121
    go_wp2_with (first
      | (go_at_call 161; refine (c161 HH.out).mono ?_; rintro e w1 ⟨rfl,h1⟩
         have H1:=Lib.hid h1
         clear h1)
      | (go_at_call 292; refine (c292 H1.out rfl).mono ?_; rintro e w2 ⟨rfl,h2⟩
         have H2:=Lib.hid h2
         clear h2))
    go_ret
    exact ⟨rfl,Hfin.out _ H2.out⟩
  · have hm : ∀ w', (method 734 340 (.pointer (some ⟨w.heap.size, 0, none⟩)) "SetRuleIndex").run Tryz.prog w' = .ok (292, .pointer (some ⟨w.heap.size, 0, none⟩)) w' := fun w' => m_st_SetRuleIndex (k := 5) ⟨by omega, by omega⟩ _ w'
    go_enter Tryz.func121,Tryz.ntmps121
    go_wp2_with (first
      | (go_at_call 162; refine (c162 HH.out).mono ?_; rintro e w1 ⟨rfl,h1⟩
         have H1:=Lib.hid h1
         clear h1)
      | (go_at_call 292; refine (c292 H1.out rfl).mono ?_; rintro e w2 ⟨rfl,h2⟩
         have H2:=Lib.hid h2
         clear h2))
    go_ret
    exact ⟨rfl,Hfin.out _ H2.out⟩
  · have hm : ∀ w', (method 734 239 (.pointer (some ⟨w.heap.size, 0, none⟩)) "SetRuleIndex").run Tryz.prog w' = .ok (292, .pointer (some ⟨w.heap.size, 0, none⟩)) w' := fun w' => m_st_SetRuleIndex (k := 6) ⟨by omega, by omega⟩ _ w'
    go_enter Tryz.func121,Tryz.ntmps121
    go_wp2_with (first
      | (go_at_call 163; refine (c163 HH.out).mono ?_; rintro e w1 ⟨rfl,h1⟩
         have H1:=Lib.hid h1
         clear h1)
      | (go_at_call 292; refine (c292 H1.out rfl).mono ?_; rintro e w2 ⟨rfl,h2⟩
         have H2:=Lib.hid h2
         clear h2))
    go_ret
    exact ⟨rfl,Hfin.out _ H2.out⟩
  · have hm : ∀ w', (method 734 271 (.pointer (some ⟨w.heap.size, 0, none⟩)) "SetRuleIndex").run Tryz.prog w' = .ok (292, .pointer (some ⟨w.heap.size, 0, none⟩)) w' := fun w' => m_st_SetRuleIndex (k := 7) ⟨by omega, by omega⟩ _ w'
    go_enter Tryz.func121,Tryz.ntmps121
    go_wp2_with (first
      | (go_at_call 164; refine (c164 HH.out).mono ?_; rintro e w1 ⟨rfl,h1⟩
         have H1:=Lib.hid h1
         clear h1)
      | (go_at_call 292; refine (c292 H1.out rfl).mono ?_; rintro e w2 ⟨rfl,h2⟩
         have H2:=Lib.hid h2
         clear h2))
    go_ret
    exact ⟨rfl,Hfin.out _ H2.out⟩
  · have hm : ∀ w', (method 734 301 (.pointer (some ⟨w.heap.size, 0, none⟩)) "SetRuleIndex").run Tryz.prog w' = .ok (292, .pointer (some ⟨w.heap.size, 0, none⟩)) w' := fun w' => m_st_SetRuleIndex (k := 8) ⟨by omega, by omega⟩ _ w'
    go_enter Tryz.func121,Tryz.ntmps121
    go_wp2_with (first
      | (go_at_call 165; refine (c165 HH.out).mono ?_; rintro e w1 ⟨rfl,h1⟩
         have H1:=Lib.hid h1
         clear h1)
      | (go_at_call 292; refine (c292 H1.out rfl).mono ?_; rintro e w2 ⟨rfl,h2⟩
         have H2:=Lib.hid h2
         clear h2))
    go_ret
    exact ⟨rfl,Hfin.out _ H2.out⟩
  · have hm : ∀ w', (method 734 332 (.pointer (some ⟨w.heap.size, 0, none⟩)) "SetRuleIndex").run Tryz.prog w' = .ok (292, .pointer (some ⟨w.heap.size, 0, none⟩)) w' := fun w' => m_st_SetRuleIndex (k := 9) ⟨by omega, by omega⟩ _ w'
    go_enter Tryz.func121,Tryz.ntmps121
    go_wp2_with (first
      | (go_at_call 166; refine (c166 HH.out).mono ?_; rintro e w1 ⟨rfl,h1⟩
         have H1:=Lib.hid h1
         clear h1)
      | (go_at_call 292; refine (c292 H1.out rfl).mono ?_; rintro e w2 ⟨rfl,h2⟩
         have H2:=Lib.hid h2
         clear h2))
    go_ret
    exact ⟨rfl,Hfin.out _ H2.out⟩
  · have hm : ∀ w', (method 734 160 (.pointer (some ⟨w.heap.size, 0, none⟩)) "SetRuleIndex").run Tryz.prog w' = .ok (292, .pointer (some ⟨w.heap.size, 0, none⟩)) w' := fun w' => m_st_SetRuleIndex (k := 10) ⟨by omega, by omega⟩ _ w'
    go_enter Tryz.func121,Tryz.ntmps121
    go_wp2_with (first
      | (go_at_call 167; refine (c167 HH.out).mono ?_; rintro e w1 ⟨rfl,h1⟩
         have H1:=Lib.hid h1
         clear h1)
      | (go_at_call 292; refine (c292 H1.out rfl).mono ?_; rintro e w2 ⟨rfl,h2⟩
         have H2:=Lib.hid h2
         clear h2))
    go_ret
    exact ⟨rfl,Hfin.out _ H2.out⟩
  · have hm : ∀ w', (method 734 322 (.pointer (some ⟨w.heap.size, 0, none⟩)) "SetRuleIndex").run Tryz.prog w' = .ok (292, .pointer (some ⟨w.heap.size, 0, none⟩)) w' := fun w' => m_st_SetRuleIndex (k := 11) ⟨by omega, by omega⟩ _ w'
    go_enter Tryz.func121,Tryz.ntmps121
    go_wp2_with (first
      | (go_at_call 168; refine (c168 HH.out).mono ?_; rintro e w1 ⟨rfl,h1⟩
         have H1:=Lib.hid h1
         clear h1)
      | (go_at_call 292; refine (c292 H1.out rfl).mono ?_; rintro e w2 ⟨rfl,h2⟩
         have H2:=Lib.hid h2
         clear h2))
    go_ret
    exact ⟨rfl,Hfin.out _ H2.out⟩
  · have hm : ∀ w', (method 734 290 (.pointer (some ⟨w.heap.size, 0, none⟩)) "SetRuleIndex").run Tryz.prog w' = .ok (292, .pointer (some ⟨w.heap.size, 0, none⟩)) w' := fun w' => m_st_SetRuleIndex (k := 12) ⟨by omega, by omega⟩ _ w'
    go_enter Tryz.func121,Tryz.ntmps121
    go_wp2_with (first
      | (go_at_call 169; refine (c169 HH.out).mono ?_; rintro e w1 ⟨rfl,h1⟩
         have H1:=Lib.hid h1
         clear h1)
      | (go_at_call 292; refine (c292 H1.out rfl).mono ?_; rintro e w2 ⟨rfl,h2⟩
         have H2:=Lib.hid h2
         clear h2))
    go_ret
    exact ⟨rfl,Hfin.out _ H2.out⟩
end Go.Proofs.YtbcngfgemjdllaaGreatDoor
end
