/- Part 43: M7. -/
import Derived.Deep.RegionHeld3
import Derived.Test.YtbcngfgemjdllaaGreatDoorB42
set_option linter.unusedVariables false
set_option linter.unusedSimpArgs false
namespace Go.Own
open Go.RowKit
theorem step_append_st {P:Program} {B:Nat} {w0 w:World} {r:List HP} {z:Value} {v:Value} {n sz:Nat} {xs:List Value} {ops:Array Oper} {F:Prop} {Q:Exit→Act→World→Prop} {A:Act} {N:Act→World→Prop} {o:Oper} {t e:TypeId} {bytes:Nat} (hgd:o.guard=none) (s x:Operand)
    (ho:o.op=.call { callee:=.builtin .append,args:=#[s,x],argTypes:=#[t,t] }) (T:SlT P t e sz bytes z) (H:St B w0 (Osl v e sz n xs::r) w) (hs:A.eval s=v)
    (a:Addr) (m c:Nat) (news:List Value) (hx:A.eval x=.slice (some a) m c) (hl:news.length=m * sz) (hnews:∀ j u,news[j]? = some u→w.cell? (a.add j)=some u) (h1:∀ u ∈ news,u.oneCell'=true)
    (h63:n+m≤maxLen) (hbytes:(n+m) * bytes≤140737488355328)
    (h:∀ a' c' w',St B w0 (Osl (.slice a' (n+m) c') e sz (n+m) (xs++news)::r) w'→N (A.put o.dst (.slice a' (n+m) c')) w') :
    if Region.wanted o (yielded ops A.tmps)=true then Oper.wp P o A w N Q else F:=by
  rw [if_pos (by simp [Region.wanted,hgd])]
  obtain ⟨v',w',hr,h2,h3⟩:=run_append_st (ty:=o.type) T H a m c news hl hnews h1 h63 hbytes
  unfold Oper.wp execOp
  simp only [ho,resolve,invoke,builtin,Sem.run_bind,Sem.run_pure,Result.andThen_ok,List.map_toArray,List.map_cons,List.map_nil,hs,hx,hr]
  obtain ⟨a',c',rfl⟩:=h2.ownVal
  exact h a' c' w' h2
end Go.Own
namespace Go.Proofs.YtbcngfgemjdllaaGreatDoor
open Go.RowKit Go.Own
theorem addr_add {g j:Nat} : (⟨g,0,none⟩:Addr).add j=⟨g,j,none⟩:=by unfold Addr.add; split <;> simp_all
variable {B:Nat} {w0 w:World} {r:List HP}
theorem sl59:SlT Tryz.prog 59 64 6 56 (.agg #[.int .i64 0,.int .i64 0,.slice none 0 0,.bool false,.bool false,.int .i64 0]):=⟨by kernel_rfl,sl_inf' (by kernel_rfl),by kernel_rfl,by decide⟩
theorem sl57:SlT Tryz.prog 57 61 4 64 (.agg #[.int .i64 0,.int .i64 0,.slice none 0 0,.slice none 0 0]):=⟨by kernel_rfl,sl_inf' (by kernel_rfl),by kernel_rfl,by decide⟩
def R36 (w:World) (L:List Lx.Cf) (v i:Value) (wr:World):Prop:=∃ (k:Nat) (a:Option Addr) (c:Nat),k≤L.length∧i=.int .i64 (k:Int)∧v=.slice a k c∧St w.heap.size w [CfR 64 (.slice a k c) (L.take k)] wr
set_option maxRecDepth 100000 in
set_option maxHeartbeats 8000000 in
theorem c36 {v:Value} {L:List Lx.Cf} (hL:CfF w v L) (hl:L.length<1099511627776):Calls Tryz.prog 36 #[v] w fun e w'=>∃ (a':Option Addr) (c':Nat),e=.returned (.slice a' L.length c')∧St w.heap.size w [CfR 64 (.slice a' L.length c') L] w':=by
  obtain ⟨a,c,rfl,h1⟩:=hL.ex
  have HL:=Lib.hid h1
  have HH:=Lib.hid (St.ownFull (m:=0) (sz:=6) ((St.nil w).alloc (ob 64 [])) rfl (by simp [maxLen]))
  clear hL h1
  go_enter Tryz.func36,Tryz.ntmps36
  go_wp2_with fail
  go_loopw [3,9] (R36 w L) (fun _ i _=>L.length - (intOf i).toNat)
  case atStart=>exact ⟨0,_,0,Nat.zero_le _,rfl,rfl,by rw [List.take_zero]; exact OwnL.nil HH.out⟩
  case round =>
    obtain ⟨k,a1,c1,hk,rfl,rfl,H1⟩:=hrel
    by_cases hlt:k<L.length
    · have hk0:(0:Int)≤(k:Int):=Int.natCast_nonneg _
      have hk1:(k:Int)<(L.length:Int):=by omega
      have Hw:=Lib.hid (wrapS hlt (by omega))
      obtain ⟨x,hx⟩:∃ x,L[k]? = some x:=⟨_,List.getElem?_eq_getElem hlt⟩
      obtain ⟨g,ca,cc,rfl,hcs,hrow⟩:=HL.out k x hx
      have e0:wr.cell? ⟨g,k * 6,none⟩=some (.int .i64 (x.1:Int)):=cell_mono H1.below (hcs 0 _ rfl)
      have e1:wr.cell? ⟨g,k * 6+1,none⟩=some (.int .i64 (x.2:Int)):=cell_mono H1.below (hcs 1 _ rfl)
      have e2:wr.cell? ⟨g,k * 6+2,none⟩=some (.slice ca 3 cc):=cell_mono H1.below (hcs 2 _ rfl)
      have e3:wr.cell? ⟨g,k * 6+3,none⟩=some (.bool false):=cell_mono H1.below (hcs 3 _ rfl)
      have e4:wr.cell? ⟨g,k * 6+4,none⟩=some (.bool false):=cell_mono H1.below (hcs 4 _ rfl)
      have e5:wr.cell? ⟨g,k * 6+5,none⟩=some (.int .i64 (hN x)):=cell_mono H1.below (hcs 5 _ rfl)
      obtain ⟨gc,hgc,hcc⟩:=hrow (by simp [cxL])
      subst hgc
      have Ha:=H1.alloc (ob 154 (cgV x (some ⟨gc,0,none⟩) cc))
      obtain ⟨qs,hqs,H2⟩:=OwnL.opn (Ha.pick 1)
      have hkl:(L.take k).length=k:=by rw [List.length_take]; omega
      rw [hkl] at H2
      have hz:(wr.alloc (ob 154 (cgV x (some ⟨gc,0,none⟩) cc))).heap.size=wr.heap.size+1:=Array.size_push _
      have HE0:=(H2.alloc (ob 3 []))
      rw [hz] at HE0
      have HE1:=St.ownFull (m:=0) (sz:=1) HE0 rfl (by simp [maxLen])
      have HE2:=HE1.drew
      have hnews:∀ j u,cxL[j]? = some u→((wr.alloc (ob 154 (cgV x (some ⟨gc,0,none⟩) cc))).alloc (ob 3 [])).cell? ((⟨gc,0,none⟩:Addr).add j)=some u:=fun j u hj=>by
        rw [addr_add]; exact cell_mono HE1.below (hcc j u hj)
      have HX:=Lib.hid (And.intro hqs (And.intro hx (And.intro HE1 (And.intro HE2 hnews))))
      clear hcs hqs hx H1 H2 Ha HE0 HE1 HE2 hnews hz hkl hrow hcc
      go_wp2_with fail
      go_region_held3 (fun w'=>w'.cell? ⟨wr.heap.size,0,none⟩=some (.int .i64 (x.1:Int))∧w'.cell? ⟨wr.heap.size,1,none⟩=some (.int .i64 (x.2:Int))∧w'.cell? ⟨wr.heap.size,2,none⟩=some (.slice (some ⟨gc,0,none⟩) 3 cc)∧w'.cell? ⟨wr.heap.size,3,none⟩=some (.bool false)∧w'.cell? ⟨wr.heap.size,4,none⟩=some (.bool false)∧w'.cell? ⟨wr.heap.size,5,none⟩=some (.int .i64 (hN x)))
        (first
          | go_keep
          | with_reducible exact ⟨y0,y1,y2,y3,y4,y5⟩
          | with_reducible exact ⟨z0,z1,z2,z3,z4,z5⟩)
        (first
          | (refine step_append1_st (v:=.slice a1 k c1) rfl _ _ rfl sl59 (g:=w5.heap.size) (news:=cgV x a5 c5) (HA2.out _) rfl 1 rfl rfl rfl (by simp [cgV,Value.oneCell']) (by simp only [maxLen]; omega) (by omega) ?_
             intro a6 c6 w6 H6
             have z0:w6.cell? ⟨wr.heap.size,0,none⟩=some (.int .i64 (x.1:Int)):=(H6.pick 3).cells.1 0
             have z1:w6.cell? ⟨wr.heap.size,1,none⟩=some (.int .i64 (x.2:Int)):=(H6.pick 3).cells.1 1
             have z2:w6.cell? ⟨wr.heap.size,2,none⟩=some (.slice (some ⟨gc,0,none⟩) 3 cc):=(H6.pick 3).cells.1 2
             have z3:w6.cell? ⟨wr.heap.size,3,none⟩=some (.bool false):=(H6.pick 3).cells.1 3
             have z4:w6.cell? ⟨wr.heap.size,4,none⟩=some (.bool false):=(H6.pick 3).cells.1 4
             have z5:w6.cell? ⟨wr.heap.size,5,none⟩=some (.int .i64 (hN x)):=(H6.pick 3).cells.1 5)
          | (refine step_append_st (v:=.slice (some ⟨wr.heap.size+1,0,none⟩) 0 0) (xs:=[]) (n:=0) rfl _ _ rfl sl45 (by first | exact HX.out.2.2.2.1 | exact HX.out.2.2.1) rfl ⟨gc,0,none⟩ 3 cc cxL rfl rfl (by exact HX.out.2.2.2.2) (by simp [cxL,Value.oneCell']) (by simp [maxLen]) (by omega) ?_
             intro a5 c5 w5 H5
             have H5':St w.heap.size w (Osl (.slice a5 3 c5) 3 1 3 cxL::_) w5:=H5
             have y0:w5.cell? ⟨wr.heap.size,0,none⟩=some (.int .i64 (x.1:Int)):=(H5'.pick 3).cells.1 0
             have y1:w5.cell? ⟨wr.heap.size,1,none⟩=some (.int .i64 (x.2:Int)):=(H5'.pick 3).cells.1 1
             have y2:w5.cell? ⟨wr.heap.size,2,none⟩=some (.slice (some ⟨gc,0,none⟩) 3 cc):=(H5'.pick 3).cells.1 2
             have y3:w5.cell? ⟨wr.heap.size,3,none⟩=some (.bool false):=(H5'.pick 3).cells.1 3
             have y4:w5.cell? ⟨wr.heap.size,4,none⟩=some (.bool false):=(H5'.pick 3).cells.1 4
             have y5:w5.cell? ⟨wr.heap.size,5,none⟩=some (.int .i64 (hN x)):=(H5'.pick 3).cells.1 5
             have HA2:=Lib.hid (fun o=>((H5'.alloc o).pick 2).pick 1)
             clear H5 H5'))
      have H8:=((cfR_push HX.out.1 HX.out.2.1 H6).pick 1).drop
      have HY:=Lib.hid H8
      clear H8 H6 y0 y1 y2 y3 y4 y5 z0 z1 z2 z3 z4 z5 HA2 HX
      go_wp2_with fail
      first | rw [Hw.out] | rw [show ((k:Int)+1)=((k+1:Nat):Int) from by omega]
      exact ⟨⟨k+1,a6,c6,hlt,rfl,rfl,HY.out⟩,measS hlt⟩
    · have hk1 : ¬ (k:Int)<(L.length:Int):=by omega
      have hkl:k=L.length:=by omega
      subst hkl
      rw [List.take_length] at H1
      have HF:=Lib.hid H1
      clear H1 hk
      go_wp2_with fail
      refine bodyPost_ret (v:=.slice a1 L.length c1) ?_ rfl ⟨_,_,rfl,HF.out⟩
      simp [results,Tryz.results36,go_sem]
theorem St.ofBelow {w':World} (hb:Below w.heap.size w w'):St w.heap.size w [] w':=⟨Nat.le_refl _,hb,trivial⟩
theorem mt_push2 {v vc va:Value} {X:List MX} {k:Nat} {y:MX} {q:List (Value × Value)} (hq:q.length=(X.take k).length) (hy:X[k]? = some y)
    (H:St B w0 (Osl v 61 4 (k+1) ((((X.take k).zip q).flatMap fun x=>[.int .i64 (x.1.1:Int),.int .i64 (hS x.1.2.1),x.2.1,x.2.2])++[.int .i64 (y.1:Int),.int .i64 (hS y.2.1),vc,va])::CfR 64 vc y.2.1::CfR 64 va y.2.2 ::
      stars (((X.take k).zip q).map fun x=>star (CfR 64 x.2.1 x.1.2.1) (CfR 64 x.2.2 x.1.2.2))::r) w):St B w0 (MtR 61 64 v (X.take (k+1))::r) w:=by
  have hk:(X.take k).length=k:=by have:=(List.getElem?_eq_some_iff.1 hy).1; rw [List.length_take]; omega
  have e:X.take (k+1)=X.take k++[y]:=by rw [List.take_add_one,hy]; rfl
  rw [e]
  unfold MtR
  refine OwnL.push (y:=(vc,va)) hq ?_
  rw [hk]
  exact (((H.pick 2).pick 2).join).pick 1
def R27 (w:World) (X:List MX) (u:Value) (v i:Value) (wr:World):Prop:=∃ (k:Nat) (a:Option Addr) (c:Nat),k≤X.length∧i=.int .i64 (k:Int)∧v=.slice a k c∧St w.heap.size w [MtR 61 64 (.slice a k c) (X.take k),MtR 97 154 u X] wr
set_option maxRecDepth 100000 in
set_option maxHeartbeats 8000000 in
theorem c27 {rules:List Lx.Ex} {n:Nat} (hG:GdR rules n) {V:NV} {ru:Nat} (hN:NetV w V (cmK rules rules.length ru)) {s:ByteArray} (ht:∀ c ∈ tx s,c≤127) (hl:s.size≤60) :
    Calls Tryz.prog 27 #[.agg (V.cells (cmK rules rules.length ru)).toArray,.string s] w fun e w'=>∃ v,e=.returned v∧MtF w' v (AX rules n (tx s))∧AXs (AX rules n (tx s))∧Below w.heap.size w w':=by
  obtain ⟨X,hX0⟩:∃ X,X=AX rules n (tx s):=⟨_,rfl⟩
  rw [← hX0]
  have HX0:=Lib.hid hX0
  clear hX0
  obtain ⟨S,hS⟩:∃ S,S=cmK rules rules.length ru:=⟨_,rfl⟩
  have H0:=((St.nil w).alloc (ob 48 (V.cells S))).alloc (ob 61 [])
  rw [show (w.alloc (ob 48 (V.cells S))).heap.size=w.heap.size+1 from Array.size_push _] at H0
  have H00:=St.ownFull (m:=0) (sz:=4) H0 rfl (by simp [maxLen])
  have h33:=c33 (w:=(w.alloc (ob 48 (V.cells S))).alloc (ob 61 [])) (ru:=ru) hG.good hG.pos hG.len hG.size (hN.mono H0.below)
  rw [← hS] at h33 ⊢
  have H33:=Lib.hid h33
  have HG:=Lib.hid (And.intro hG (And.intro ht hl))
  have HH:=Lib.hid H00
  clear h33 hG hN ht hl hS H0 H00
  unfold NV.cells
  go_enter Tryz.func27,Tryz.ntmps27
  go_wp2_with fail
  go_at_call 33
  refine H33.out.mono ?_
  rintro e w1 ⟨at_,bk,rfl,hB,hb⟩
  have H35:=Lib.hid (c35 HG.out.1 hB HG.out.2.1 HG.out.2.2)
  have HH1:=Lib.hid (HH.out.over_base (St.ofBelow hb))
  clear hB hb HH
  go_wp2_with fail
  go_at_call 35
  refine H35.out.mono ?_
  rintro e w2 ⟨v,rfl,hax,h35⟩
  rw [← HX0.out] at hax h35
  have HH3:=Lib.hid (show St w.heap.size w [Osl (.slice (some ⟨w.heap.size+1,0,none⟩) 0 0) 61 4 0 [],MtR 97 154 v X] w2 from (((HH1.out.over_base h35).pick 2).drop.pick 1))
  obtain ⟨a,c,rfl,_⟩:=(MtF.of (HH3.out.pick 1)).ex
  have HM:=Lib.hid hax.each
  have HAX:=Lib.hid hax
  have hX:=hax.len
  clear hax h35 HH1
  go_wp2_with fail
  go_loopw [5,15] (R27 w X (.slice a X.length c)) (fun _ i _=>X.length - (intOf i).toNat)
  case atStart=>exact ⟨0,_,0,Nat.zero_le _,rfl,rfl,by rw [List.take_zero]; exact OwnL.nil HH3.out⟩
  case round =>
    obtain ⟨k,a1,c1,hk,rfl,rfl,H1⟩:=hrel
    by_cases hlt:k<X.length
    · have hk0:(0:Int)≤(k:Int):=Int.natCast_nonneg _
      have hk1:(k:Int)<(X.length:Int):=by omega
      have Hw:=Lib.hid (wrapS hlt (by omega))
      obtain ⟨x,hx⟩:∃ x,X[k]? = some x:=⟨_,List.getElem?_eq_getElem hlt⟩
      obtain ⟨a2,c2,e0,hM1⟩:=(MtF.of (H1.pick 1)).ex
      injection e0 with e0 _ e00
      subst e0 e00
      obtain ⟨g,vc,va,rfl,hcs,hfc,hfa⟩:=hM1 k x hx
      have hxl:=HM.out x (List.mem_of_getElem? hx)
      obtain ⟨ac,cc1,ec,_⟩:=hfc.ex
      obtain ⟨aa,ca1,ea,_⟩:=hfa.ex
      subst ec ea
      have e0:wr.cell? ⟨g,k * 4,none⟩=some (.int .i64 (x.1:Int)):=hcs 0 _ rfl
      have e1:wr.cell? ⟨g,k * 4+1,none⟩=some (.int .i64 (hS x.2.1)):=hcs 1 _ rfl
      have e2:wr.cell? ⟨g,k * 4+2,none⟩=some (.slice ac x.2.1.length cc1):=hcs 2 _ rfl
      have e3:wr.cell? ⟨g,k * 4+3,none⟩=some (.slice aa x.2.2.length ca1):=hcs 3 _ rfl
      have Ha:=(H1.alloc (ob 97 [.int .i64 (x.1:Int),.int .i64 (hS x.2.1),.slice ac x.2.1.length cc1,.slice aa x.2.2.length ca1]))
      have h36:=c36 (w:=(wr.alloc (ob 97 [.int .i64 (x.1:Int),.int .i64 (hS x.2.1),.slice ac x.2.1.length cc1,.slice aa x.2.2.length ca1])).drew) (hfc.mono ((St.nil wr).alloc _).drew.below) hxl.1
      have h36b:=fun W (h:Below wr.heap.size wr W)=>c36 (hfa.mono h) hxl.2
      obtain ⟨qs,hqs,H2⟩:=OwnL.opn (Ha.drew.pick 1)
      have hkl:(X.take k).length=k:=by rw [List.length_take]; omega
      rw [hkl] at H2
      have HX:=Lib.hid (And.intro hqs (And.intro hx H2))
      have H36:=Lib.hid (And.intro h36 (And.intro h36b ((St.nil wr).alloc (ob 97 [.int .i64 (x.1:Int),.int .i64 (hS x.2.1),.slice ac x.2.1.length cc1,.slice aa x.2.2.length ca1])).drew))
      clear hM1 hcs hfc hfa hxl H1 Ha h36 h36b hqs H2 hx hkl
      go_wp2_with fail
      go_region_held3 (fun w'=>w'.cell? ⟨wr.heap.size,0,none⟩=some (.int .i64 (x.1:Int))∧w'.cell? ⟨wr.heap.size,1,none⟩=some (.int .i64 (hS x.2.1))∧w'.cell? ⟨wr.heap.size,2,none⟩=some (.slice ac x.2.1.length cc1)∧w'.cell? ⟨wr.heap.size,3,none⟩=some (.slice aa x.2.2.length ca1))
        (first
          | go_keep
          | with_reducible exact ⟨y0,y1,y2,y3⟩
          | with_reducible exact ⟨z0,z1,z2,z3⟩
          | with_reducible exact ⟨x0,x1,x2,x3⟩)
        (first
          | (go_at_call 36; refine (H36.out.2.1 w4 HB4.out).mono ?_; rintro e w5 ⟨b2,d2,rfl,h5⟩
             have h6:=HF4.out.over_base h5
             have z0:w5.cell? ⟨wr.heap.size,0,none⟩=some (.int .i64 (x.1:Int)):=(h6.pick 4).cells.1 0
             have z1:w5.cell? ⟨wr.heap.size,1,none⟩=some (.int .i64 (hS x.2.1)):=(h6.pick 4).cells.1 1
             have z2:w5.cell? ⟨wr.heap.size,2,none⟩=some (.slice ac x.2.1.length cc1):=(h6.pick 4).cells.1 2
             have z3:w5.cell? ⟨wr.heap.size,3,none⟩=some (.slice aa x.2.2.length ca1):=(h6.pick 4).cells.1 3
             have HA5:=Lib.hid (fun o=>((h6.alloc o).pick 3).pick 1)
             clear h5 h6)
          | (go_at_call 36; refine H36.out.1.mono ?_; rintro e w4 ⟨b1,d1,rfl,h4⟩
             have HB4:=Lib.hid ((H36.out.2.2.over_base h4).below)
             have h3:=HX.out.2.2.over_base h4
             have y0:w4.cell? ⟨wr.heap.size,0,none⟩=some (.int .i64 (x.1:Int)):=(h3.pick 3).cells.1 0
             have y1:w4.cell? ⟨wr.heap.size,1,none⟩=some (.int .i64 (hS x.2.1)):=(h3.pick 3).cells.1 1
             have y2:w4.cell? ⟨wr.heap.size,2,none⟩=some (.slice ac x.2.1.length cc1):=(h3.pick 3).cells.1 2
             have y3:w4.cell? ⟨wr.heap.size,3,none⟩=some (.slice aa x.2.2.length ca1):=(h3.pick 3).cells.1 3
             have HF4:=Lib.hid h3
             clear h4 h3)
          | (refine step_append1_st (v:=.slice a1 k c1) rfl _ _ rfl sl57 (g:=w5.heap.size) (news:=[.int .i64 (x.1:Int),.int .i64 (hS x.2.1),.slice b1 x.2.1.length d1,.slice b2 x.2.2.length d2]) (HA5.out _) rfl 1 rfl rfl rfl (by simp [Value.oneCell']) (by simp only [maxLen]; omega) (by omega) ?_
             intro a6 c6 w6 H6
             have x0:w6.cell? ⟨wr.heap.size,0,none⟩=some (.int .i64 (x.1:Int)):=(H6.pick 4).cells.1 0
             have x1:w6.cell? ⟨wr.heap.size,1,none⟩=some (.int .i64 (hS x.2.1)):=(H6.pick 4).cells.1 1
             have x2:w6.cell? ⟨wr.heap.size,2,none⟩=some (.slice ac x.2.1.length cc1):=(H6.pick 4).cells.1 2
             have x3:w6.cell? ⟨wr.heap.size,3,none⟩=some (.slice aa x.2.2.length ca1):=(H6.pick 4).cells.1 3))
      have H8:=((mt_push2 HX.out.1 HX.out.2.1 ((H6.pick 2).pick 1)).pick 1).drop.pick 0
      have HY:=Lib.hid H8
      clear H8 H6 y0 y1 y2 y3 z0 z1 z2 z3 x0 x1 x2 x3 HA5 HF4 HB4 H36 HX
      go_wp2_with fail
      first | rw [Hw.out] | rw [show ((k:Int)+1)=((k+1:Nat):Int) from by omega]
      exact ⟨⟨k+1,a6,c6,hlt,rfl,rfl,HY.out⟩,measS hlt⟩
    · have hk1 : ¬ (k:Int)<(X.length:Int):=by omega
      have hkl:k=X.length:=by omega
      subst hkl
      rw [List.take_length] at H1
      have HF:=Lib.hid (And.intro (MtF.of H1) H1.below)
      clear H1 hk
      go_wp2_with fail
      refine bodyPost_ret (v:=.slice a1 X.length c1) ?_ rfl ⟨_,rfl,HF.out.1,HAX.out,HF.out.2⟩
      simp [results,Tryz.results27,go_sem]
end Go.Proofs.YtbcngfgemjdllaaGreatDoor
