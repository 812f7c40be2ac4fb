/- Part 41: W3. -/
import Derived.Test.YtbcngfgemjdllaaGreatDoorB31
set_option linter.unusedVariables false
set_option linter.unusedSimpArgs false
namespace Go.Proofs.YtbcngfgemjdllaaGreatDoor
open Go.RowKit Go.Own
theorem OutW.nm {B:Nat} {w0 w:World} {b:Nat} {ys:List Int} {r:List HP} (H:OutW B w0 b ys r w):∃ y,Hid (y=ys)∧y.length=ys.length∧OutW B w0 b y r w:=⟨ys,Lib.hid rfl,rfl,H⟩
theorem app3 (p q:List Int) (a b c:Int):p++q++[a]++[b]++[c]=p++(q++[a,b,c]):=by simp
theorem app2 (p q:List Int) (a b:Int):p++q++[a]++[b]=p++(q++[a,b]):=by simp
theorem flatI_len (l:List Nat):(l.flatMap inI).length=l.length:=by
  induction l with
  | nil=>rfl
  | cons x l ih=>simp only [List.flatMap_cons,List.length_append,ih,List.length_cons,inI,List.length_nil]; omega
set_option maxRecDepth 100000 in
set_option maxHeartbeats 16000000 in
theorem c47 {w : World} {V : GV} {S : BS} {ruls : List (Nat × Nat)} {mt : Nat} (hV : GrV w V S ruls) (hs : SmN S ruls mt) :
    Calls Tryz.prog 47 #[.agg (V.cells S ruls mt).toArray] w fun e w'=>∃ a c,e=.returned (.slice a (serN S ruls mt).length c)∧RowAt w' a (i32 (serN S ruls mt))∧Below w.heap.size w w':=by
  have hb1:=flat_take_le (f:=seS) (n:=3) seS_len S.sts
  have hb2:=flat_take_le (f:=ruI) (n:=2) (fun _=>Nat.le_refl _) ruls
  have hb3:=flat_take_le (f:=edI) (n:=6) (fun _=>Nat.le_refl _) S.ed
  have hb4:=flat_le (f:=inI) (n:=1) (fun _=>Nat.le_refl _) S.dc
  have n1:=hs.n1
  have n2:=hs.n2
  have n4:=hs.n4
  have n5:=hs.n5
  have nm:=hs.m
  have hz1:(w.alloc (ob 137 (V.cells S ruls mt))).heap.size=w.heap.size+1:=Array.size_push _
  have hz2:((w.alloc (ob 137 (V.cells S ruls mt))).alloc (ob 124 [.slice none 0 0])).heap.size=w.heap.size+1+1:=by
    show (Array.push _ _).size=_
    rw [Array.size_push,hz1]
  have H0:=((St.nil w).alloc (ob 137 (V.cells S ruls mt))).alloc (ob 124 [.slice none 0 0])
  rw [hz1] at H0
  have H1:OutW w.heap.size w (w.heap.size+1) [] [pts w.heap.size 137 (V.cells S ruls mt)] _:=⟨none,0,(St.ownNil H0 21 1).pick 1⟩
  have hg:∀ (ys:List Int) (W:World),OutW w.heap.size w (w.heap.size+1) ys [pts w.heap.size 137 (V.cells S ruls mt)] W→∀ o,W.cell? ⟨w.heap.size,o,none⟩=(V.cells S ruls mt)[o]? := fun ys W H=>by
    obtain ⟨l,Hl⟩:=H.part
    exact Hl.cells.1
  have HV:=Lib.hid hV
  have Hs:=Lib.hid hs
  clear hV hs H0
  have hmf:∀ (fn:Fn) (first cap:Array Value) (w:World),(Instr.makeFunc fn first cap).run Tryz.prog w=.ok (.func fn first cap) w:=fun _ _ _ _=>rfl
  unfold GV.cells at hg H1 hz1 hz2 ⊢
  have Hz:=Lib.hid hz2
  have Hg:=Lib.hid hg
  clear hz1 hz2 hg
  go_enter Tryz.func47,Tryz.ntmps47
  go_wp2_with fail
  go_at_call 65
  refine (put65 [4,0,(mt:Int),(S.sts.length:Int)] Hz.out (by simp only [List.length_cons,List.length_nil]; omega) (by intro x hx; simp only [List.mem_cons,List.not_mem_nil,or_false] at hx; omega) H1).mono ?_
  rintro e w1 ⟨rfl,H2⟩
  clear H1
  obtain ⟨y1,Yy1,Ly1,H2⟩:=OutW.nm H2
  have By1:y1.length≤4:=by simp only [List.length_append,List.length_cons,List.length_nil] at Ly1; omega
  clear Ly1
  have x2:=Hg.out _ _ H2 2
  simp only [List.getElem?_cons_zero,List.getElem?_cons_succ] at x2
  have HH:=Lib.hid H2
  clear H2
  go_wp2_with fail
  go_loopw [34] (SeRel w.heap.size w (w.heap.size+1) y1 seS S.sts [pts w.heap.size 137 [.bool true,.int .i64 (mt:Int),.slice V.a1 S.sts.length V.c1,.slice none 0 0,.slice none 0 0,.slice V.a2 ruls.length V.c2,.slice V.a3 1 V.c3,.slice none 0 0,.slice V.a4 S.ed.length V.c4,.slice V.a5 S.dc.length V.c5,.slice none 0 0]]) (fun i _=>S.sts.length - (intOf i).toNat)
  case atStart=>exact ⟨0,Nat.zero_le _,rfl,by rw [List.take_zero,List.flatMap_nil,List.append_nil]; exact HH.out⟩
  case round =>
    clear HH
    obtain ⟨k,hk,rfl,H2⟩:=hrel
    by_cases hlt:k<S.sts.length
    · obtain ⟨g,hga,hgc⟩:=(HV.out.mono H2.below).r1.get (f:=stC) (n:=3) (fun _=>rfl) (by omega) (List.getElem?_eq_getElem hlt)
      have hk0:(0:Int)≤(k:Int):=Int.natCast_nonneg _
      have hk1:(k:Int)<(S.sts.length:Int):=by omega
      have e0:wr.cell? ⟨g,k * 3,none⟩=some (.int .i64 (S.sts[k].1:Int)):=hgc 0 _ rfl
      have e1:wr.cell? ⟨g,k * 3+1,none⟩=some (.int .i64 (S.sts[k].2.1:Int)):=hgc 1 _ rfl
      have e2:wr.cell? ⟨g,k * 3+2,none⟩=some (.int .i64 (S.sts[k].2.2:Int)):=hgc 2 _ rfl
      have hft:=flat_takeI (f:=seS) (List.getElem?_eq_getElem hlt)
      have hbk:=hb1 k
      have Hw:=Lib.hid (wrapS hlt (by omega))
      have Hft:=Lib.hid hft
      have hsx:=Hs.out.s _ (List.getElem_mem hlt)
      generalize S.sts[k]=x at e0 e1 e2 Hft hsx
      obtain ⟨z,Yz,Lz,H3⟩:=OutW.nm H2
      have Bz:z.length≤3000004:=by simp only [List.length_append] at Lz; omega
      rw [hga]
      have H4:=H3.alloc 140 [.int .i64 (x.1:Int),.int .i64 (x.2.1:Int),.int .i64 (x.2.2:Int)]
      clear hft hgc H2 H3 Lz hbk
      have hne:((x.1:Int) == 0)=false:=by rw [beq_eq_false_iff_ne]; omega
      have hzr:(wr.alloc (ob 140 [.int .i64 (x.1:Int),.int .i64 (x.2.1:Int),.int .i64 (x.2.2:Int)])).heap.size=wr.heap.size+1:=Array.size_push _
      have Hzr:=Lib.hid hzr
      clear hzr
      by_cases hsw:x.1=12∨x.1=3∨x.1=4∨x.1=5
      · have Hsw:=Lib.hid hsw
        have Hcs:(((x.1:Int) == 12)=true)∨(((x.1:Int) == 12)=false∧((x.1:Int) == 3)=true)∨(((x.1:Int) == 12)=false∧((x.1:Int) == 3)=false∧((x.1:Int) == 4)=true)∨(((x.1:Int) == 12)=false∧((x.1:Int) == 3)=false∧((x.1:Int) == 4)=false∧((x.1:Int) == 5)=true):=by
          simp only [beq_iff_eq,beq_eq_false_iff_ne]; omega
        clear hsw
        rcases Hcs with hc1 | ⟨hc1,hc2⟩ | ⟨hc1,hc2,hc3⟩ | ⟨hc1,hc2,hc3,hc4⟩
        all_goals
          go_wp2_with fail
          go_at_call 65
          refine (put65 [(x.1:Int)] Hzr.out (by simp only [List.length_append,List.length_cons,List.length_nil]; omega) (by intro y hy; simp only [List.mem_cons,List.not_mem_nil,or_false] at hy; omega) H4).mono ?_
          rintro e w1 ⟨rfl,H5⟩
          obtain ⟨lp,Hlp⟩:=H5.part
          have u0:w1.cell? ⟨wr.heap.size,0,none⟩=some (.int .i64 (x.1:Int)):=Hlp.cells.1 0
          have u1:w1.cell? ⟨wr.heap.size,1,none⟩=some (.int .i64 (x.2.1:Int)):=Hlp.cells.1 1
          have u2:w1.cell? ⟨wr.heap.size,2,none⟩=some (.int .i64 (x.2.2:Int)):=Hlp.cells.1 2
          clear H4 Hlp
          go_wp2_with fail
          go_at_call 65
          refine (put65 [(x.2.1:Int)] (by rfl) (by simp only [List.length_append,List.length_cons,List.length_nil]; omega) (by intro y hy; simp only [List.mem_cons,List.not_mem_nil,or_false] at hy; omega) H5).mono ?_
          rintro e w2 ⟨rfl,H4⟩
          clear u0 u1 u2 lp
          obtain ⟨lp,Hlp⟩:=H4.part
          have u0:w2.cell? ⟨wr.heap.size,0,none⟩=some (.int .i64 (x.1:Int)):=Hlp.cells.1 0
          have u1:w2.cell? ⟨wr.heap.size,1,none⟩=some (.int .i64 (x.2.1:Int)):=Hlp.cells.1 1
          have u2:w2.cell? ⟨wr.heap.size,2,none⟩=some (.int .i64 (x.2.2:Int)):=Hlp.cells.1 2
          clear H5 Hlp
          go_wp2_with fail
          go_at_call 65
          refine (put65 [(x.2.2:Int)] (by rfl) (by simp only [List.length_append,List.length_cons,List.length_nil]; omega) (by intro y hy; simp only [List.mem_cons,List.not_mem_nil,or_false] at hy; omega) H4).mono ?_
          rintro e w3 ⟨rfl,H5⟩
          go_wp2_with fail
          first | rw [Hw.out] | rw [show ((k:Int)+1)=((k+1:Nat):Int) from by omega]
          refine ⟨⟨k+1,hlt,rfl,?_⟩,measS hlt⟩
          rw [← Hft.out]
          have H6:=H5.drop
          rw [Yz.out] at H6
          rw [app3] at H6
          have hsx2:seS x=[(x.1:Int),(x.2.1:Int),(x.2.2:Int)]:=by unfold seS; rw [if_pos Hsw.out]
          rw [hsx2]
          rw [hga] at H6
          exact H6
      · have Hsw:=Lib.hid hsw
        have hc1:((x.1:Int) == 12)=false:=by rw [beq_eq_false_iff_ne]; omega
        have hc2:((x.1:Int) == 3)=false:=by rw [beq_eq_false_iff_ne]; omega
        have hc3:((x.1:Int) == 4)=false:=by rw [beq_eq_false_iff_ne]; omega
        have hc4:((x.1:Int) == 5)=false:=by rw [beq_eq_false_iff_ne]; omega
        clear hsw
        go_wp2_with fail
        go_at_call 65
        refine (put65 [(x.1:Int)] Hzr.out (by simp only [List.length_append,List.length_cons,List.length_nil]; omega) (by intro y hy; simp only [List.mem_cons,List.not_mem_nil,or_false] at hy; omega) H4).mono ?_
        rintro e w1 ⟨rfl,H5⟩
        obtain ⟨lp,Hlp⟩:=H5.part
        have u0:w1.cell? ⟨wr.heap.size,0,none⟩=some (.int .i64 (x.1:Int)):=Hlp.cells.1 0
        have u1:w1.cell? ⟨wr.heap.size,1,none⟩=some (.int .i64 (x.2.1:Int)):=Hlp.cells.1 1
        have u2:w1.cell? ⟨wr.heap.size,2,none⟩=some (.int .i64 (x.2.2:Int)):=Hlp.cells.1 2
        clear H4 Hlp
        go_wp2_with fail
        go_at_call 65
        refine (put65 [(x.2.1:Int)] (by rfl) (by simp only [List.length_append,List.length_cons,List.length_nil]; omega) (by intro y hy; simp only [List.mem_cons,List.not_mem_nil,or_false] at hy; omega) H5).mono ?_
        rintro e w2 ⟨rfl,H4⟩
        clear u0 u1 u2 lp
        obtain ⟨lp,Hlp⟩:=H4.part
        have u0:w2.cell? ⟨wr.heap.size,0,none⟩=some (.int .i64 (x.1:Int)):=Hlp.cells.1 0
        have u1:w2.cell? ⟨wr.heap.size,1,none⟩=some (.int .i64 (x.2.1:Int)):=Hlp.cells.1 1
        have u2:w2.cell? ⟨wr.heap.size,2,none⟩=some (.int .i64 (x.2.2:Int)):=Hlp.cells.1 2
        clear H5 Hlp
        have H5:=H4
        go_wp2_with fail
        first | rw [Hw.out] | rw [show ((k:Int)+1)=((k+1:Nat):Int) from by omega]
        refine ⟨⟨k+1,hlt,rfl,?_⟩,measS hlt⟩
        rw [← Hft.out]
        have H6:=H5.drop
        rw [Yz.out] at H6
        rw [app2] at H6
        have hsx2:seS x=[(x.1:Int),(x.2.1:Int)]:=by unfold seS; rw [if_neg Hsw.out]
        rw [hsx2]
        rw [hga] at H6
        exact H6
    · have hk1 : ¬ (k:Int)<(S.sts.length:Int):=by omega
      have hkl:k=S.sts.length:=by omega
      subst hkl
      have hbk:=hb1 S.sts.length
      rw [List.take_length] at H2 hbk
      obtain ⟨y2,Yy2,Ly2,H2⟩:=OutW.nm H2
      have By2:y2.length≤3000004:=by simp only [List.length_append,List.length_cons,List.length_nil] at Ly2; omega
      clear Ly2
      have x3:=Hg.out _ _ H2 3
      simp only [List.getElem?_cons_zero,List.getElem?_cons_succ] at x3
      go_wp2_with fail
      go_at_call 65
      refine (put65 [0] (by rfl) (by simp only [List.length_cons,List.length_nil]; omega) (by intro x hx; simp only [List.mem_cons,List.not_mem_nil,or_false] at hx; omega) H2).mono ?_
      rintro e w1 ⟨rfl,H2⟩
      obtain ⟨y3,Yy3,Ly3,H2⟩:=OutW.nm H2
      have By3:y3.length≤3000005:=by simp only [List.length_append,List.length_cons,List.length_nil] at Ly3; omega
      clear Ly3
      have x3:=Hg.out _ _ H2 3
      simp only [List.getElem?_cons_zero,List.getElem?_cons_succ] at x3
      go_wp2_with fail
      go_at_call 65
      refine (put65o (w0:=w) (a:=none) [] rfl (by simp only [List.length_nil]; omega) (by simp) (fun h=>absurd rfl h) H2).mono ?_
      rintro e w1 ⟨rfl,H2⟩
      obtain ⟨y4,Yy4,Ly4,H2⟩:=OutW.nm H2
      have By4:y4.length≤3000005:=by simp only [List.length_append,List.length_cons,List.length_nil] at Ly4; omega
      clear Ly4
      have x4:=Hg.out _ _ H2 4
      simp only [List.getElem?_cons_zero,List.getElem?_cons_succ] at x4
      go_wp2_with fail
      go_at_call 65
      refine (put65 [0] (by rfl) (by simp only [List.length_cons,List.length_nil]; omega) (by intro x hx; simp only [List.mem_cons,List.not_mem_nil,or_false] at hx; omega) H2).mono ?_
      rintro e w1 ⟨rfl,H2⟩
      obtain ⟨y5,Yy5,Ly5,H2⟩:=OutW.nm H2
      have By5:y5.length≤3000006:=by simp only [List.length_append,List.length_cons,List.length_nil] at Ly5; omega
      clear Ly5
      have x4:=Hg.out _ _ H2 4
      simp only [List.getElem?_cons_zero,List.getElem?_cons_succ] at x4
      go_wp2_with fail
      go_at_call 65
      refine (put65o (w0:=w) (a:=none) [] rfl (by simp only [List.length_nil]; omega) (by simp) (fun h=>absurd rfl h) H2).mono ?_
      rintro e w1 ⟨rfl,H2⟩
      obtain ⟨y6,Yy6,Ly6,H2⟩:=OutW.nm H2
      have By6:y6.length≤3000006:=by simp only [List.length_append,List.length_cons,List.length_nil] at Ly6; omega
      clear Ly6
      have x5:=Hg.out _ _ H2 5
      simp only [List.getElem?_cons_zero,List.getElem?_cons_succ] at x5
      go_wp2_with fail
      go_at_call 65
      refine (put65 [(ruls.length:Int)] (by rfl) (by simp only [List.length_cons,List.length_nil]; omega) (by intro x hx; simp only [List.mem_cons,List.not_mem_nil,or_false] at hx; omega) H2).mono ?_
      rintro e w1 ⟨rfl,H2⟩
      obtain ⟨y7,Yy7,Ly7,H2⟩:=OutW.nm H2
      have By7:y7.length≤3000007:=by simp only [List.length_append,List.length_cons,List.length_nil] at Ly7; omega
      clear Ly7
      have x5:=Hg.out _ _ H2 5
      simp only [List.getElem?_cons_zero,List.getElem?_cons_succ] at x5
      have HH:=Lib.hid H2
      clear H2
      go_wp2_with fail
      go_loopw [93] (SeRel w.heap.size w (w.heap.size+1) y7 ruI ruls [pts w.heap.size 137 [.bool true,.int .i64 (mt:Int),.slice V.a1 S.sts.length V.c1,.slice none 0 0,.slice none 0 0,.slice V.a2 ruls.length V.c2,.slice V.a3 1 V.c3,.slice none 0 0,.slice V.a4 S.ed.length V.c4,.slice V.a5 S.dc.length V.c5,.slice none 0 0]]) (fun i _=>ruls.length - (intOf i).toNat)
      case atStart=>exact ⟨0,Nat.zero_le _,rfl,by rw [List.take_zero,List.flatMap_nil,List.append_nil]; exact HH.out⟩
      case round =>
        clear HH
        obtain ⟨k,hk,rfl,H2⟩:=hrel
        by_cases hlt:k<ruls.length
        · obtain ⟨g,hga,hgc⟩:=(HV.out.mono H2.below).r2.get (f:=ruC) (n:=2) (fun _=>rfl) (by omega) (List.getElem?_eq_getElem hlt)
          have hk0:(0:Int)≤(k:Int):=Int.natCast_nonneg _
          have hk1:(k:Int)<(ruls.length:Int):=by omega
          have e0:wr.cell? ⟨g,k * 2,none⟩=some (.int .i64 (ruls[k].1:Int)):=hgc 0 _ rfl
          have e1:wr.cell? ⟨g,k * 2+1,none⟩=some (.int .i64 (ruls[k].2:Int)):=hgc 1 _ rfl
          have hft:=flat_takeI (f:=ruI) (List.getElem?_eq_getElem hlt)
          have hbk:=hb2 k
          have Hw:=Lib.hid (wrapS hlt (by omega))
          have Hft:=Lib.hid hft
          have hsx:=Hs.out.r _ (List.getElem_mem hlt)
          generalize ruls[k]=x at e0 e1 Hft hsx
          obtain ⟨z,Yz,Lz,H3⟩:=OutW.nm H2
          have Bz:z.length≤5000007:=by simp only [List.length_append] at Lz; omega
          rw [hga]
          have H4:=H3.alloc 139 [.int .i64 (x.1:Int),.int .i64 (x.2:Int)]
          clear hft hgc H2 H3 Lz hbk
          have hzr:(wr.alloc (ob 139 [.int .i64 (x.1:Int),.int .i64 (x.2:Int)])).heap.size=wr.heap.size+1:=Array.size_push _
          have Hzr:=Lib.hid hzr
          clear hzr
          go_wp2_with fail
          go_at_call 65
          refine (put65 [(x.1:Int)] Hzr.out (by simp only [List.length_append,List.length_cons,List.length_nil]; omega) (by intro y hy; simp only [List.mem_cons,List.not_mem_nil,or_false] at hy; omega) H4).mono ?_
          rintro e w1 ⟨rfl,H5⟩
          obtain ⟨lp,Hlp⟩:=H5.part
          have u0:w1.cell? ⟨wr.heap.size,0,none⟩=some (.int .i64 (x.1:Int)):=Hlp.cells.1 0
          have u1:w1.cell? ⟨wr.heap.size,1,none⟩=some (.int .i64 (x.2:Int)):=Hlp.cells.1 1
          have x0:=Hg.out _ _ H5.drop 0
          simp only [List.getElem?_cons_zero,List.getElem?_cons_succ] at x0
          clear H4 Hlp
          go_wp2_with fail
          go_at_call 65
          refine (put65 [(x.2:Int)] (by rfl) (by simp only [List.length_append,List.length_cons,List.length_nil]; omega) (by intro y hy; simp only [List.mem_cons,List.not_mem_nil,or_false] at hy; omega) H5).mono ?_
          rintro e w2 ⟨rfl,H4⟩
          clear H5
          have H5:=H4
          go_wp2_with fail
          first | rw [Hw.out] | rw [show ((k:Int)+1)=((k+1:Nat):Int) from by omega]
          refine ⟨⟨k+1,hlt,rfl,?_⟩,measS hlt⟩
          rw [← Hft.out]
          have H6:=H5.drop
          rw [Yz.out] at H6
          rw [app2] at H6
          rw [hga] at H6
          exact H6
        · have hk1 : ¬ (k:Int)<(ruls.length:Int):=by omega
          have hkl:k=ruls.length:=by omega
          subst hkl
          have hbk:=hb2 ruls.length
          rw [List.take_length] at H2 hbk
          obtain ⟨y8,Yy8,Ly8,H2⟩:=OutW.nm H2
          have By8:y8.length≤5000007:=by simp only [List.length_append,List.length_cons,List.length_nil] at Ly8; omega
          clear Ly8
          have x6:=Hg.out _ _ H2 6
          simp only [List.getElem?_cons_zero,List.getElem?_cons_succ] at x6
          go_wp2_with fail
          go_at_call 65
          refine (put65 [1] (by rfl) (by simp only [List.length_cons,List.length_nil]; omega) (by intro x hx; simp only [List.mem_cons,List.not_mem_nil,or_false] at hx; omega) H2).mono ?_
          rintro e w1 ⟨rfl,H2⟩
          obtain ⟨y9,Yy9,Ly9,H2⟩:=OutW.nm H2
          have By9:y9.length≤5000008:=by simp only [List.length_append,List.length_cons,List.length_nil] at Ly9; omega
          clear Ly9
          have x6:=Hg.out _ _ H2 6
          simp only [List.getElem?_cons_zero,List.getElem?_cons_succ] at x6
          go_wp2_with fail
          go_at_call 65
          refine (put65o (w0:=w) [0] rfl (by simp only [List.length_cons,List.length_nil]; omega) (by simp) HV.out.r3 H2).mono ?_
          rintro e w1 ⟨rfl,H2⟩
          obtain ⟨ya,Yya,Lya,H2⟩:=OutW.nm H2
          have Bya:ya.length≤5000009:=by simp only [List.length_append,List.length_cons,List.length_nil] at Lya; omega
          clear Lya
          have x7:=Hg.out _ _ H2 7
          simp only [List.getElem?_cons_zero,List.getElem?_cons_succ] at x7
          go_wp2_with fail
          go_at_call 65
          refine (put65 [0] (by rfl) (by simp only [List.length_cons,List.length_nil]; omega) (by intro x hx; simp only [List.mem_cons,List.not_mem_nil,or_false] at hx; omega) H2).mono ?_
          rintro e w1 ⟨rfl,H2⟩
          obtain ⟨yb,Yyb,Lyb,H2⟩:=OutW.nm H2
          have Byb:yb.length≤5000010:=by simp only [List.length_append,List.length_cons,List.length_nil] at Lyb; omega
          clear Lyb
          have x7:=Hg.out _ _ H2 7
          simp only [List.getElem?_cons_zero,List.getElem?_cons_succ] at x7
          have HH:=Lib.hid H2
          clear H2
          go_wp2_with fail
          go_loopw [129] (fun (i:Value) (wr:World)=>i=.int .i64 0∧OutW w.heap.size w (w.heap.size+1) yb [pts w.heap.size 137 [.bool true,.int .i64 (mt:Int),.slice V.a1 S.sts.length V.c1,.slice none 0 0,.slice none 0 0,.slice V.a2 ruls.length V.c2,.slice V.a3 1 V.c3,.slice none 0 0,.slice V.a4 S.ed.length V.c4,.slice V.a5 S.dc.length V.c5,.slice none 0 0]] wr) (fun _ _=>0)
          case atStart=>exact ⟨rfl,HH.out⟩
          case round =>
            clear HH
            obtain ⟨rfl,H2⟩:=hrel
            have x8:=Hg.out _ _ H2 8
            simp only [List.getElem?_cons_zero,List.getElem?_cons_succ] at x8
            go_wp2_with fail
            go_at_call 65
            refine (put65 [(S.ed.length:Int)] (by rfl) (by simp only [List.length_cons,List.length_nil]; omega) (by intro x hx; simp only [List.mem_cons,List.not_mem_nil,or_false] at hx; omega) H2).mono ?_
            rintro e w1 ⟨rfl,H2⟩
            obtain ⟨yc,Yyc,Lyc,H2⟩:=OutW.nm H2
            have Byc:yc.length≤5000011:=by simp only [List.length_append,List.length_cons,List.length_nil] at Lyc; omega
            clear Lyc
            have x8:=Hg.out _ _ H2 8
            simp only [List.getElem?_cons_zero,List.getElem?_cons_succ] at x8
            have HH:=Lib.hid H2
            clear H2
            go_wp2_with fail
            go_loopw [167] (SeRel w.heap.size w (w.heap.size+1) yc edI S.ed [pts w.heap.size 137 [.bool true,.int .i64 (mt:Int),.slice V.a1 S.sts.length V.c1,.slice none 0 0,.slice none 0 0,.slice V.a2 ruls.length V.c2,.slice V.a3 1 V.c3,.slice none 0 0,.slice V.a4 S.ed.length V.c4,.slice V.a5 S.dc.length V.c5,.slice none 0 0]]) (fun i _=>S.ed.length - (intOf i).toNat)
            case atStart=>exact ⟨0,Nat.zero_le _,rfl,by rw [List.take_zero,List.flatMap_nil,List.append_nil]; exact HH.out⟩
            case round =>
              clear HH
              obtain ⟨k,hk,rfl,H2⟩:=hrel
              by_cases hlt:k<S.ed.length
              · obtain ⟨g,hga,hgc⟩:=(HV.out.mono H2.below).r4.get (f:=edC) (n:=6) (fun _=>rfl) (by omega) (List.getElem?_eq_getElem hlt)
                have hk0:(0:Int)≤(k:Int):=Int.natCast_nonneg _
                have hk1:(k:Int)<(S.ed.length:Int):=by omega
                have e0:wr.cell? ⟨g,k * 6,none⟩=some (.int .i64 (S.ed[k].src:Int)):=hgc 0 _ rfl
                have e1:wr.cell? ⟨g,k * 6+1,none⟩=some (.int .i64 (S.ed[k].to:Int)):=hgc 1 _ rfl
                have e2:wr.cell? ⟨g,k * 6+2,none⟩=some (.int .i64 S.ed[k].kind):=hgc 2 _ rfl
                have e3:wr.cell? ⟨g,k * 6+3,none⟩=some (.int .i64 S.ed[k].a1):=hgc 3 _ rfl
                have e4:wr.cell? ⟨g,k * 6+4,none⟩=some (.int .i64 S.ed[k].a2):=hgc 4 _ rfl
                have e5:wr.cell? ⟨g,k * 6+5,none⟩=some (.int .i64 0):=hgc 5 _ rfl
                have hft:=flat_takeI (f:=edI) (List.getElem?_eq_getElem hlt)
                have hbk:=hb3 k
                have Hw:=Lib.hid (wrapS hlt (by omega))
                have Hft:=Lib.hid hft
                have hsx:=Hs.out.e _ (List.getElem_mem hlt)
                generalize S.ed[k]=x at e0 e1 e2 e3 e4 e5 Hft hsx
                obtain ⟨z,Yz,Lz,H3⟩:=OutW.nm H2
                have Bz:z.length≤11000011:=by simp only [List.length_append] at Lz; omega
                rw [hga]
                have H4:=H3.alloc 141 [.int .i64 (x.src:Int),.int .i64 (x.to:Int),.int .i64 x.kind,.int .i64 x.a1,.int .i64 x.a2,.int .i64 0]
                clear hft hgc H2 H3 Lz hbk
                have hzr:(wr.alloc (ob 141 [.int .i64 (x.src:Int),.int .i64 (x.to:Int),.int .i64 x.kind,.int .i64 x.a1,.int .i64 x.a2,.int .i64 0])).heap.size=wr.heap.size+1:=Array.size_push _
                have Hzr:=Lib.hid hzr
                clear hzr
                go_wp2_with fail
                go_at_call 65
                refine (put65 [(x.src:Int),(x.to:Int),x.kind,x.a1,x.a2,0] Hzr.out (by simp only [List.length_append,List.length_cons,List.length_nil]; omega) (by intro y hy; simp only [List.mem_cons,List.not_mem_nil,or_false] at hy; omega) H4).mono ?_
                rintro e w1 ⟨rfl,H5⟩
                clear H4
                go_wp2_with fail
                first | rw [Hw.out] | rw [show ((k:Int)+1)=((k+1:Nat):Int) from by omega]
                refine ⟨⟨k+1,hlt,rfl,?_⟩,measS hlt⟩
                rw [← Hft.out]
                have H6:=H5.drop
                rw [Yz.out] at H6
                rw [List.append_assoc] at H6
                rw [hga] at H6
                exact H6
              · have hk1 : ¬ (k:Int)<(S.ed.length:Int):=by omega
                have hkl:k=S.ed.length:=by omega
                subst hkl
                have hbk:=hb3 S.ed.length
                rw [List.take_length] at H2 hbk
                obtain ⟨yd,Yyd,Lyd,H2⟩:=OutW.nm H2
                have Byd:yd.length≤11000011:=by simp only [List.length_append,List.length_cons,List.length_nil] at Lyd; omega
                clear Lyd
                have x9:=Hg.out _ _ H2 9
                simp only [List.getElem?_cons_zero,List.getElem?_cons_succ] at x9
                go_wp2_with fail
                go_at_call 65
                refine (put65 [(S.dc.length:Int)] (by rfl) (by simp only [List.length_cons,List.length_nil]; omega) (by intro x hx; simp only [List.mem_cons,List.not_mem_nil,or_false] at hx; omega) H2).mono ?_
                rintro e w1 ⟨rfl,H2⟩
                obtain ⟨ye,Yye,Lye,H2⟩:=OutW.nm H2
                have Bye:ye.length≤11000012:=by simp only [List.length_append,List.length_cons,List.length_nil] at Lye; omega
                clear Lye
                have x9:=Hg.out _ _ H2 9
                simp only [List.getElem?_cons_zero,List.getElem?_cons_succ] at x9
                have Hdc:=Lib.hid (inC_i64 S.dc)
                have hdl:(S.dc.flatMap inI).length=S.dc.length:=flatI_len S.dc
                have hdx:∀ x ∈ S.dc.flatMap inI,-2147483648≤x∧x<2147483648:=by
                  intro x hx
                  obtain ⟨n,hn,hx⟩:=List.mem_flatMap.1 hx
                  have:=Hs.out.d n hn
                  simp [inI] at hx; omega
                have Hdl:=Lib.hid hdl
                have Hdx:=Lib.hid hdx
                clear hdl hdx
                go_wp2_with fail
                go_at_call 65
                refine (put65o (w0:=w) (S.dc.flatMap inI) Hdl.out.symm (by rw [Hdl.out]; omega) Hdx.out (by rw [← Hdc.out]; exact HV.out.r5) H2).mono ?_
                rintro e w1 ⟨rfl,H2⟩
                have Hdl2:=Hdl.out
                obtain ⟨yf,Yyf,Lyf,H2⟩:=OutW.nm H2
                have Byf:yf.length≤12000012:=by simp only [List.length_append,List.length_cons,List.length_nil] at Lyf; omega
                clear Lyf
                clear Hdl2
                have x0:=Hg.out _ _ H2 0
                simp only [List.getElem?_cons_zero,List.getElem?_cons_succ] at x0
                have x10:=Hg.out _ _ H2 10
                simp only [List.getElem?_cons_zero,List.getElem?_cons_succ] at x10
                go_wp2_with fail
                go_at_call 65
                refine (put65 [0] (by rfl) (by simp only [List.length_cons,List.length_nil]; omega) (by intro x hx; simp only [List.mem_cons,List.not_mem_nil,or_false] at hx; omega) H2).mono ?_
                rintro e w1 ⟨rfl,H2⟩
                obtain ⟨yg,Yyg,Lyg,H2⟩:=OutW.nm H2
                have Byg:yg.length≤12000013:=by simp only [List.length_append,List.length_cons,List.length_nil] at Lyg; omega
                clear Lyg
                have x10:=Hg.out _ _ H2 10
                simp only [List.getElem?_cons_zero,List.getElem?_cons_succ] at x10
                have HH:=Lib.hid H2
                clear H2
                go_wp2_with fail
                go_loopw [208] (fun (i:Value) (wr:World)=>i=.int .i64 0∧OutW w.heap.size w (w.heap.size+1) yg [pts w.heap.size 137 [.bool true,.int .i64 (mt:Int),.slice V.a1 S.sts.length V.c1,.slice none 0 0,.slice none 0 0,.slice V.a2 ruls.length V.c2,.slice V.a3 1 V.c3,.slice none 0 0,.slice V.a4 S.ed.length V.c4,.slice V.a5 S.dc.length V.c5,.slice none 0 0]] wr) (fun _ _=>0)
                case atStart=>exact ⟨rfl,HH.out⟩
                case round =>
                  clear HH
                  obtain ⟨rfl,H2⟩:=hrel
                  obtain ⟨af,cf,HF⟩:=H2.ex
                  have q0:=HF.cells.1 0
                  simp only [List.getElem?_cons_zero] at q0
                  have hR:=RowAt.of (HF.pick 1)
                  have hB:=HF.below
                  have hyg:yg=serN S ruls mt:=by rw [Yyg.out,Yyf.out,Yye.out,Yyd.out,Yyc.out,Yyb.out,Yya.out,Yy9.out,Yy8.out,Yy7.out,Yy6.out,Yy5.out,Yy4.out,Yy3.out,Yy2.out,Yy1.out]; rfl
                  rw [hyg] at q0 hR
                  have HRR:=Lib.hid hR
                  have HBB:=Lib.hid hB
                  clear hR hB hyg HF H2
                  go_wp2_with fail
                  go_ret
                  first | exact ⟨_,_,rfl,HRR.out,HBB.out⟩ | exact ⟨_,⟨_,rfl⟩,HRR.out,HBB.out⟩
end Go.Proofs.YtbcngfgemjdllaaGreatDoor
