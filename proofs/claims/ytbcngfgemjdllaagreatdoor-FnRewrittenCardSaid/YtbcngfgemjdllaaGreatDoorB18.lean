/- Part 18: K6, K7, K8. -/
import Derived.Deep.RegionLaw
import Derived.Test.YtbcngfgemjdllaaGreatDoorB17
set_option linter.unusedVariables false
set_option linter.unusedSimpArgs false
section
namespace Go.Proofs.YtbcngfgemjdllaaGreatDoor
open Go.RowKit Go.Own
variable {B:Nat} {w0 w:World} {b:Nat} {S:BS} {r:List HP}
def BS.row (S:BS) (lo:Nat) (ss:List Lx.Ex):BS := { S with sts:=S.sts++((1,S.ru,0)::(Lx.stss ss (lo+1)).map fun x=>(x.1,S.ru,x.2)),ed:=S.ed++Lx.rowE ss (lo+1) lo,dc:=S.dc++Lx.dcss ss (lo+1) }
theorem row_len {lo:Nat} {ss:List Lx.Ex} (h:S.sts.length=lo):(S.row lo ss).sts.length=lo+1+Lx.nsts ss:=by
  simp only [BS.row,List.length_append,List.length_cons,List.length_map]
  rw [Lx.stss_len ss (fun s _ lo=>Lx.sts_len s lo),h]; omega
theorem row_succ {lo k:Nat} {ss:List Lx.Ex} {s:Lx.Ex} (h:S.sts.length=lo) (hk:ss[k]? = some s) :
    S.row lo (ss.take (k+1))=((S.row lo (ss.take k)).mk1 s).addE (Lx.ep (Lx.rowL (ss.take k) (lo+1) lo) (Lx.fstS s (lo+1+Lx.nsts (ss.take k)))):=by
  have hl:=row_len (ss:=ss.take k) h
  unfold BS.mk1
  rw [hl]
  unfold BS.row BS.addE
  rw [Lx.stss_take hk,Lx.rowE_take hk,Lx.dcss_take hk]
  simp [List.append_assoc]
theorem rowE_le {M:Nat} : ∀ (ss:List Lx.Ex) (lo p:Nat),(∀ s ∈ ss,∀ lo,(Lx.edg s lo).length+2≤M * Lx.size s)→(Lx.rowE ss lo p).length≤M * Lx.sizes ss
  | [],_,_,_=>by simp [Lx.rowE]
  | s::ss,lo,p,h=>by
    have h1:=h s (by simp) lo
    have h2:=rowE_le ss (lo+Lx.nst s) (Lx.lstS s lo) fun x hx=>h x (by simp [hx])
    simp only [Lx.rowE,Lx.sizes,Nat.mul_add,List.length_append,List.length_cons]
    omega
theorem sizes_app (l m:List Lx.Ex):Lx.sizes (l++m)=Lx.sizes l+Lx.sizes m:=by
  induction l with
  | nil=>simp [Lx.sizes]
  | cons x l ih=>simp only [List.cons_append,Lx.sizes,ih]; omega
theorem row_bnd {lo k:Nat} {ss:List Lx.Ex} (h:S.sts.length=lo) (hf:FitB S (Lx.sizes ss)):Fits (S.row lo (ss.take k)) (Lx.sizes (ss.drop k))∧(S.row lo (ss.take k)).sts.length+5 * Lx.sizes (ss.drop k)+1<1000000∧(S.row lo (ss.take k)).ed.length+6 * Lx.sizes (ss.drop k)+1<1000000:=by
  have hs:=hf.s
  have he:=hf.e
  have hd:=hf.d
  have hsz:Lx.sizes (ss.take k)+Lx.sizes (ss.drop k)=Lx.sizes ss:=by rw [← sizes_app,List.take_append_drop]
  have h1:=Lx.nsts_le (M:=5) (ss.take k) fun s _=>Lx.nst_le s
  have h2:=rowE_le (M:=6) (ss.take k) (lo+1) lo fun s _ lo=>Lx.edg_le s lo
  have h3:=Lx.dcss_le (M:=2) (ss.take k) (lo+1) fun s _ lo=>Lx.dcs_le s lo
  refine ⟨⟨?_,?_,?_⟩,?_,?_⟩
  · rw [row_len h]; omega
  · simp only [BS.row,List.length_append]; omega
  · simp only [BS.row,List.length_append]; omega
  · rw [row_len h]; omega
  · simp only [BS.row,List.length_append]; omega
theorem row_zero {lo:Nat} {ss:List Lx.Ex} : S.addS 1=S.row lo (ss.take 0):=by
  unfold BS.row BS.addS
  simp [Lx.stss,Lx.rowE,Lx.dcss]
theorem row_all {a b2:Int} {lo q:Nat} {ss:List Lx.Ex} (h:S.sts.length=lo) (hq:q=lo+1+Lx.nsts ss):((S.row lo ss).addS 1).addE (Lx.ep (Lx.rowL ss (lo+1) lo) q)=S.mk1 (.mk 1 a b2 ss):=by
  subst h hq
  simp [BS.row,BS.addS,BS.addE,BS.mk1,Lx.sts,Lx.edg,Lx.dcs,Lx.edgRow_eq]
def RwRel (w0:World) (b:Nat) (S:BS) (r:List HP) (lo:Nat) (ss:List Lx.Ex) (v i:Value) (wr:World):Prop :=
  ∃ k:Nat,k≤ss.length∧i=.int .i64 k∧v=.int .i64 (Lx.rowL (ss.take k) (lo+1) lo:Int)∧BsW w0.heap.size w0 b (S.row lo (ss.take k)) r wr
set_option maxRecDepth 100000 in
set_option maxHeartbeats 4000000 in
theorem c50_row {a b2:Int} {ss:List Lx.Ex} {sa:Option Addr} {c lo q:Nat} (hlo:S.sts.length=lo) (hq:q=lo+1+Lx.nsts ss) (hf:Fits S (Lx.sizes ss+1)) (hl:ss.length≤4) (ih:∀ s ∈ ss,MkC s) (hS:ExS w0 ss sa 0) (H:BsW w0.heap.size w0 b S r w) :
    Calls Tryz.prog 50 #[bP b,exV 1 a b2 sa ss.length c] w fun e' w'=>e'=.returned (.tuple #[.int .i64 (lo:Int),.int .i64 (q:Int)])∧BsW w0.heap.size w0 b (S.mk1 (.mk 1 a b2 ss)) r w':=by
  have hfs:=hf.s
  have h48:=c48a (k:=1) hlo (by omega) (H.alloc 28 [.int .i64 1,.int .i64 a,.int .i64 b2,.slice sa ss.length c])
  rw [row_zero (lo:=lo) (ss:=ss)] at h48
  have HS:=Lib.hid hS
  have H48:=Lib.hid h48
  have Hlo:=Lib.hid hlo
  have Hf:=Lib.hid hf.toB
  have Hq:=Lib.hid hq
  have Hrow:=Lib.hid (row_all (a:=a) (b2:=b2) hlo hq)
  clear h48 H hlo hS hf hq
  unfold bP exV
  go_enter Tryz.func50,Tryz.ntmps50
  go_wp2_with (first
    | (go_at_call 48; refine H48.out.mono ?_; rintro e w1 ⟨rfl,H1⟩; have x3:=(BsW.part H1).1 3))
  go_loopw [10,71] (RwRel w0 b S (pts w.heap.size 28 [.int .i64 1,.int .i64 a,.int .i64 b2,.slice sa ss.length c]::r) lo ss) (fun _ i _=>ss.length - (intOf i).toNat)
  case atStart=>exact ⟨0,Nat.zero_le _,rfl,by simp [Lx.rowL],H1⟩
  case round =>
    clear H1
    obtain ⟨k,hk,rfl,rfl,H1⟩:=hrel
    by_cases hlt:k<ss.length
    · obtain ⟨g2,o,op',a',b',sa',n',cc',rfl,hat⟩:=HS.out.get0 (List.getElem?_eq_getElem hlt)
      have hatw:=hat.mono H1.below
      have hk0:(0:Int)≤(k:Int):=Int.natCast_nonneg _
      have hk1:(k:Int)<(ss.length:Int):=by omega
      have e0:=hatw.c0
      have e1:=hatw.c1
      have e2:=hatw.c2
      have e3:=hatw.c3
      have hg:=List.getElem?_eq_getElem hlt
      obtain ⟨hbf,_,hbe⟩:=row_bnd (k:=k) Hlo.out Hf.out
      have hds:=drop_sizes hg
      rw [hds] at hbf hbe
      obtain ⟨lk,hlk⟩:∃ x,x=lo+1+Lx.nsts (ss.take k):=⟨_,rfl⟩
      have hbl:=row_len (ss:=ss.take k) Hlo.out
      rw [← hlk] at hbl
      have hbs:=row_succ Hlo.out hg
      rw [← hlk] at hbs
      have h50:=fun W (H:BsW w0.heap.size w0 b (S.row lo (ss.take k)) (pts wr.heap.size 28 [.int .i64 op',.int .i64 a',.int .i64 b',.slice sa' n' cc']::pts w.heap.size 28 [.int .i64 1,.int .i64 a,.int .i64 b2,.slice (some ⟨g2,o,none⟩) ss.length c]::r) W)=>ih (ss[k]'hlt) (List.getElem_mem hlt) b (S.row lo (ss.take k)) _ w0 W _ lk hbl (hbf.le (by omega)) hat.v H
      have hpl:Lx.rowL (ss.take (k+1)) (lo+1) lo=Lx.lstS (ss[k]'hlt) lk:=by rw [Lx.rowL_take hg,hlk]
      have h51:=fun W H=>c51a (w:=W) (b:=b) (B:=w0.heap.size) (w0:=w0) (r:=pts w.heap.size 28 [.int .i64 1,.int .i64 a,.int .i64 b2,.slice (some ⟨g2,o,none⟩) ss.length c]::r) (S:=(S.row lo (ss.take k)).mk1 (ss[k]'hlt)) (s:=Lx.rowL (ss.take k) (lo+1) lo) (q:=Lx.fstS (ss[k]'hlt) lk) (by
        have h2:=Lx.edg_le (ss[k]'hlt) (S.row lo (ss.take k)).sts.length
        simp only [BS.mk1,List.length_append]; omega) H
      have Hbs:=Lib.hid hbs
      have Hpl:=Lib.hid hpl
      have H50:=Lib.hid h50
      have H51:=Lib.hid h51
      have hw:=wrapS hlt (by omega)
      have Hw:=Lib.hid hw
      have HA:=Lib.hid (H1.alloc 28 [.int .i64 op',.int .i64 a',.int .i64 b',.slice sa' n' cc'])
      clear h50 h51 hw hbs hbl hbf hbe hat hatw H1 hlk hds hpl
      generalize (ss[k]'hlt)=sk at H50 H51 Hbs Hpl hg
      go_wp2_with (first
        | (go_at_call 50; refine (H50.out _ HA.out).mono ?_; rintro e w2 ⟨rfl,H2⟩; have H2':=H2.drop)
        | (go_at_call 51; refine (H51.out _ H2').mono ?_; rintro e w3 ⟨rfl,H3⟩))
      first | rw [Hw.out] | rw [show ((k:Int)+1)=((k+1:Nat):Int) from by omega]
      refine ⟨⟨k+1,hlt,rfl,by rw [Hpl.out],?_⟩,measS hlt⟩
      rw [Hbs.out]
      exact H3
    · have hk1 : ¬ (k:Int)<(ss.length:Int):=by omega
      have hkl:k=ss.length:=by omega
      subst hkl
      rw [List.take_length] at H1 ⊢
      obtain ⟨hbf,hbs,hbe⟩:=row_bnd (k:=ss.length) Hlo.out Hf.out
      rw [List.take_length,List.drop_length] at hbf hbs hbe
      have h48:=c48a (k:=1) (lo:=q) (by rw [row_len Hlo.out,Hq.out]) (by have:=row_len (ss:=ss) Hlo.out; have:=Hq.out; omega) H1
      have h51:=fun W H=>c51a (w:=W) (b:=b) (B:=w0.heap.size) (w0:=w0) (r:=pts w.heap.size 28 [.int .i64 1,.int .i64 a,.int .i64 b2,.slice sa ss.length c]::r) (S:=(S.row lo ss).addS 1) (s:=Lx.rowL ss (lo+1) lo) (q:=q) (by simp only [addS_ed]; omega) H
      have H48:=Lib.hid h48
      have H51:=Lib.hid h51
      clear h48 h51 hbf hbs hbe H1
      go_wp2_with (first
        | (go_at_call 48; refine H48.out.mono ?_; rintro e w3 ⟨rfl,H3⟩)
        | (go_at_call 51; refine (H51.out _ H3).mono ?_; rintro e w4 ⟨rfl,H4⟩))
      go_ret2
      refine ⟨rfl,?_⟩
      rw [← Hrow.out]
      exact H4.drop
end Go.Proofs.YtbcngfgemjdllaaGreatDoor
end
section
namespace Go.Proofs.YtbcngfgemjdllaaGreatDoor
open Go.RowKit Go.Own
variable {B:Nat} {w0 w:World} {b:Nat} {S:BS} {r:List HP}
theorem mk1_chars {a b2:Int} {ss:List Lx.Ex} {lo l1:Nat} (h:S.sts.length=lo) (h1:l1=lo+1):((S.addS 1).addS 1).addE (Lx.ch lo l1 a b2)=S.mk1 (.mk 0 a b2 ss):=by
  subst h h1
  simp [BS.addS,BS.addE,BS.mk1,Lx.sts,Lx.edg,Lx.dcs]
theorem edge_add {d:Lx.Ed} {V:NV} {a4:Option Addr} {c4 x bx:Nat} {l:List Value} {w':World} (H:St B w0 (Osl (.slice a4 (S.ed.length+1) c4) 91 6 (S.ed.length+1) (S.ed.flatMap edC++edC d)::pts b 146 (V.cs S)::V.r1 S::V.r2 S::V.r3 S::V.r5 S::pts x 91 (edC d)::pts bx 28 l::r) w') :
    BsW B w0 b (S.addE d) r (w'.setCell ⟨b,3,none⟩ (.slice a4 (S.ed.length+1) c4)) :=
  (BsW.mk4 ((H.pick 1).setCell (off:=3) (.slice a4 (S.ed.length+1) c4))).drop.drop
theorem edC_cells {x:Nat} {d:Lx.Ed} (H:St B w0 (pts x 91 (edC d)::r) w):w.cell? ⟨x,0,none⟩=some (.int .i64 (d.src:Int))∧w.cell? ⟨x,1,none⟩=some (.int .i64 (d.to:Int))∧w.cell? ⟨x,2,none⟩=some (.int .i64 d.kind)∧w.cell? ⟨x,3,none⟩=some (.int .i64 d.a1)∧w.cell? ⟨x,4,none⟩=some (.int .i64 d.a2)∧w.cell? ⟨x,5,none⟩=some (.int .i64 0) :=
  ⟨H.cells.1 0,H.cells.1 1,H.cells.1 2,H.cells.1 3,H.cells.1 4,H.cells.1 5⟩
set_option maxRecDepth 100000 in
set_option maxHeartbeats 4000000 in
theorem c50_chars {a b2:Int} {n:Nat} {ss:List Lx.Ex} {sa:Option Addr} {c lo l1:Nat} (hlo:S.sts.length=lo) (h1:l1=lo+1) (hf:Fits S 1) (H:BsW w0.heap.size w0 b S r w) :
    Calls Tryz.prog 50 #[bP b,exV 0 a b2 sa n c] w fun e' w'=>e'=.returned (.tuple #[.int .i64 (lo:Int),.int .i64 (l1:Int)])∧BsW w0.heap.size w0 b (S.mk1 (.mk 0 a b2 ss)) r w':=by
  have hfs:=hf.s
  have hfe:=hf.e
  have h48a:=c48a (k:=1) hlo (by omega) (H.alloc 28 [.int .i64 0,.int .i64 a,.int .i64 b2,.slice sa n c])
  have h48b:=fun W H=>c48a (w:=W) (b:=b) (B:=w0.heap.size) (w0:=w0) (r:=pts w.heap.size 28 [.int .i64 0,.int .i64 a,.int .i64 b2,.slice sa n c]::r) (S:=S.addS 1) (k:=1) (lo:=l1) (by simp only [addS_len]; omega) (by omega) H
  have hel:((S.addS 1).addS 1).ed.length<1000000:=by simp only [addS_ed]; omega
  have Hmk:=Lib.hid (mk1_chars (a:=a) (b2:=b2) (ss:=ss) hlo h1)
  have H48a:=Lib.hid h48a
  have H48b:=Lib.hid h48b
  clear h48a h48b H hlo h1 hf hfs hfe
  rw [← Hmk.out]
  generalize hSS:(S.addS 1).addS 1=SS at H48b hel ⊢
  unfold bP exV
  cases hab:(a == b2)
  all_goals
    go_enter Tryz.func50,Tryz.ntmps50
    go_wp2_with (first
      | (go_at_call 48; refine (H48b.out _ H1).mono ?_; rintro e w2 ⟨rfl,H2⟩
         have x1:=(BsW.part H2).1 1
         have x2:=(BsW.part H2).1 2
         have hxl:w.heap.size<w2.heap.size:=World.block_lt_of_cell? _ _ x1
         have hxn : ¬ w.heap.size=w2.heap.size:=by omega)
      | (go_at_call 48; refine H48a.out.mono ?_; rintro e w1 ⟨rfl,H1⟩))
  · have hd:Lx.ch lo l1 a b2=(⟨lo,l1,2,a,b2⟩:Lx.Ed):=by unfold Lx.ch; rw [if_neg (by simpa using hab)]
    have Hd:=Lib.hid hd
    have H3:BsW w0.heap.size w0 b SS (pts w2.heap.size 91 (edC (⟨lo,l1,2,a,b2⟩:Lx.Ed))::pts w.heap.size 28 [.int .i64 0,.int .i64 a,.int .i64 b2,.slice sa n c]::r) (w2.alloc (.cells #[.int .i64 lo,.int .i64 l1,.int .i64 2,.int .i64 a,.int .i64 b2,.int .i64 0] 91)):=H2.alloc 91 _
    have hxx:=hxl
    clear H2 H1 hd x1 x2 hxl hxn
    generalize w2.alloc _=W at H3 ⊢
    obtain ⟨V,HO⟩:=H3.open
    have q3:W.cell? ⟨b,3,none⟩=some (.slice V.a4 SS.ed.length V.c4):=(cs_get HO).2.2.2.1
    obtain ⟨x0,x1,x2,x3,x4,x5⟩:=edC_cells (HO.pick 6)
    have HA:∀ o,St w0.heap.size w0 (pto W.heap.size o::Osl (.slice V.a4 SS.ed.length V.c4) 91 6 SS.ed.length (SS.ed.flatMap edC)::pts b 146 (V.cs SS)::V.r1 SS::V.r2 SS::V.r3 SS::V.r5 SS::_) (W.drew.alloc o):=fun o=>(HO.drew.pick 4).alloc o
    have hsa:∀ o,((W.alloc o).drew).cell? ⟨b,3,none⟩=some (.slice V.a4 SS.ed.length V.c4):=fun o=>(cs_get ((HO.alloc o).drew.pick 1)).2.2.2.1
    have hsd:W.drew.cell? ⟨b,3,none⟩=some (.slice V.a4 SS.ed.length V.c4):=q3
    have e1:=World.new_ne W _ q3
    have e2:=World.new_ne W _ x0
    clear H3 HO q3
    simp only at x0 x1 x2 x3 x4 x5
    go_region_law
      (first
        | (refine step_append1_st rfl _ _ rfl sl83 (g:=W.heap.size) (news:=[.int .i64 lo,.int .i64 l1,.int .i64 2,.int .i64 a,.int .i64 b2,.int .i64 0]) (HA _) rfl 1 rfl rfl rfl (by simp [Value.oneCell']) (by simp only [maxLen]; omega) (by omega) ?_
           intro a5 c5 w5 H5
           have H6:=(H5.pick 1).setCell (off:=3) (.slice a5 (SS.ed.length+1) c5)
           have hcs:=(cs_get (H5.pick 1)).2.2.2.1
           have hfs:=(H5.pick 1).cells.2 3))
    all_goals
      have HW:=Lib.hid (edge_add (d:=(⟨lo,l1,2,a,b2⟩:Lx.Ed)) H5)
      clear H5 H6 HA hsa hsd hcs hfs
      generalize w5.setCell _ _=w6 at HW ⊢
      go_wp2_with fail
      go_ret2
      exact ⟨rfl,by rw [Hd.out]; exact HW.out⟩
  · have hd:Lx.ch lo l1 a b2=(⟨lo,l1,5,a,0⟩:Lx.Ed):=by unfold Lx.ch; rw [if_pos (by simpa using hab)]
    have Hd:=Lib.hid hd
    have H3:BsW w0.heap.size w0 b SS (pts w2.heap.size 91 (edC (⟨lo,l1,5,a,0⟩:Lx.Ed))::pts w.heap.size 28 [.int .i64 0,.int .i64 a,.int .i64 b2,.slice sa n c]::r) (w2.alloc (.cells #[.int .i64 lo,.int .i64 l1,.int .i64 5,.int .i64 a,.int .i64 0,.int .i64 0] 91)):=H2.alloc 91 _
    have hxx:=hxl
    clear H2 H1 hd x1 x2 hxl hxn
    generalize w2.alloc _=W at H3 ⊢
    obtain ⟨V,HO⟩:=H3.open
    have q3:W.cell? ⟨b,3,none⟩=some (.slice V.a4 SS.ed.length V.c4):=(cs_get HO).2.2.2.1
    obtain ⟨x0,x1,x2,x3,x4,x5⟩:=edC_cells (HO.pick 6)
    have HA:∀ o,St w0.heap.size w0 (pto W.heap.size o::Osl (.slice V.a4 SS.ed.length V.c4) 91 6 SS.ed.length (SS.ed.flatMap edC)::pts b 146 (V.cs SS)::V.r1 SS::V.r2 SS::V.r3 SS::V.r5 SS::_) (W.drew.alloc o):=fun o=>(HO.drew.pick 4).alloc o
    have hsa:∀ o,((W.alloc o).drew).cell? ⟨b,3,none⟩=some (.slice V.a4 SS.ed.length V.c4):=fun o=>(cs_get ((HO.alloc o).drew.pick 1)).2.2.2.1
    have hsd:W.drew.cell? ⟨b,3,none⟩=some (.slice V.a4 SS.ed.length V.c4):=q3
    have e1:=World.new_ne W _ q3
    have e2:=World.new_ne W _ x0
    clear H3 HO q3
    simp only at x0 x1 x2 x3 x4 x5
    go_region_law
      (first
        | (refine step_append1_st rfl _ _ rfl sl83 (g:=W.heap.size) (news:=[.int .i64 lo,.int .i64 l1,.int .i64 5,.int .i64 a,.int .i64 0,.int .i64 0]) (HA _) rfl 1 rfl rfl rfl (by simp [Value.oneCell']) (by simp only [maxLen]; omega) (by omega) ?_
           intro a5 c5 w5 H5
           have H6:=(H5.pick 1).setCell (off:=3) (.slice a5 (SS.ed.length+1) c5)
           have hcs:=(cs_get (H5.pick 1)).2.2.2.1
           have hfs:=(H5.pick 1).cells.2 3))
    all_goals
      have HW:=Lib.hid (edge_add (d:=(⟨lo,l1,5,a,0⟩:Lx.Ed)) H5)
      clear H5 H6 HA hsa hsd hcs hfs
      generalize w5.setCell _ _=w6 at HW ⊢
      go_wp2_with fail
      go_ret2
      exact ⟨rfl,by rw [Hd.out]; exact HW.out⟩
theorem c50:∀ (e:Lx.Ex) (d:Nat),Lx.good d e=true→MkC e:=by
  intro e
  induction e using Lx.Ex.ind with
  | h op a b2 ss ih =>
    intro d hg b S r w0 w v lo hlo hf hv H
    obtain ⟨d,rfl,hl,hs,hk⟩:=good_sub hg
    obtain ⟨sa,c,rfl,hS⟩:=hv
    have ih':∀ s ∈ ss,MkC s:=fun s hm=>ih s hm d (hs s hm)
    have hsz:Lx.size (.mk op a b2 ss)=Lx.sizes ss+1:=by simp only [Lx.size]; omega
    rw [hsz] at hf
    by_cases h0:op=0
    · subst h0
      have e1:Lx.lstS (.mk 0 a b2 ss) lo=lo+1:=by simp [Lx.lstS]
      have e2:Lx.fstS (.mk 0 a b2 ss) lo=lo:=by simp [Lx.fstS]
      rw [e1,e2]
      exact c50_chars hlo rfl (hf.le (by omega)) H
    by_cases h1:op=1
    · subst h1
      have e1:Lx.lstS (.mk 1 a b2 ss) lo=lo+1+Lx.nsts ss:=by simp [Lx.lstS]
      have e2:Lx.fstS (.mk 1 a b2 ss) lo=lo:=by simp [Lx.fstS]
      rw [e1,e2]
      exact c50_row hlo rfl hf hl ih' hS H
    by_cases h2:op=2
    · subst h2
      have e1:Lx.lstS (.mk 2 a b2 ss) lo=lo+1:=by simp [Lx.lstS]
      have e2:Lx.fstS (.mk 2 a b2 ss) lo=lo:=by simp [Lx.fstS]
      rw [e1,e2]
      exact c50_choice hlo hf hl ih' hS H
    have h3:op=3∨op=4∨op=5:=by
      simp only [Lx.kindOk,h0,h1,h2,if_false,Bool.and_eq_true,decide_eq_true_eq,beq_iff_eq] at hk
      omega
    rcases h3 with rfl | rfl | rfl
    · have e1:Lx.lstS (.mk 3 a b2 ss) lo=lo:=by simp [Lx.lstS]
      have e2:Lx.fstS (.mk 3 a b2 ss) lo=lo+1:=by simp [Lx.fstS]
      rw [e1,e2]
      exact c50_star hlo hf hl ih' hS H
    · have e1:Lx.lstS (.mk 4 a b2 ss) lo=lo:=by simp [Lx.lstS]
      have e2:Lx.fstS (.mk 4 a b2 ss) lo=lo+2:=by simp [Lx.fstS]
      rw [e1,e2]
      exact c50_plus hlo hf hl ih' hS H
    · have e1:Lx.lstS (.mk 5 a b2 ss) lo=lo+1:=by simp [Lx.lstS]
      have e2:Lx.fstS (.mk 5 a b2 ss) lo=lo:=by simp [Lx.fstS]
      rw [e1,e2]
      exact c50_may hlo hf hl ih' hS H
end Go.Proofs.YtbcngfgemjdllaaGreatDoor
end
section
namespace Go.Proofs.YtbcngfgemjdllaaGreatDoor
open Go.RowKit Go.Own
variable {B:Nat} {w0 w:World} {b:Nat} {S:BS} {r:List HP}
def BS.setRu (S:BS) (k:Nat):BS := { S with ru:=k }
def BS.addN (S:BS) (x y:Nat):BS := { S with st:=S.st++[x],kd:=S.kd++[y] }
def cmK (rs:List Lx.Ex) (k ru:Nat):BS:=⟨(6,0,0)::Lx.cSts (rs.take k) 0 1,Lx.cStart (rs.take k) 1,(List.range k).map (· + 1),Lx.cEdg (rs.take k) 1,0::Lx.cDec (rs.take k) 1,ru⟩
theorem cmK_len {rs:List Lx.Ex} {k ru:Nat} : (cmK rs k ru).sts.length=1+Lx.cN (rs.take k):=by simp only [cmK,List.length_cons,Lx.cSts_len]; omega
theorem cmK_zero {rs:List Lx.Ex} : (({ sts:=[]++[(6,0,0)],st:=[],kd:=[],ed:=[],dc:=[]++[0],ru:=0 } : BS))=cmK rs 0 0:=by simp [cmK,Lx.cSts,Lx.cStart,Lx.cEdg,Lx.cDec]
theorem cN_le:∀ (es:List Lx.Ex),Lx.cN es≤7 * Lx.sizes es
  | []=>by simp [Lx.cN]
  | e::es=>by
    have h1:=Lx.nst_le e
    have h2:=cN_le es
    have h3:=size_pos e
    simp only [Lx.cN,Lx.sizes]
    omega
theorem cEdg_le:∀ (es:List Lx.Ex) (lo:Nat),(Lx.cEdg es lo).length≤7 * Lx.sizes es
  | [],lo=>by simp [Lx.cEdg]
  | e::es,lo=>by
    have h1:=Lx.edg_le e (lo+2)
    have h2:=cEdg_le es (lo+2+Lx.nst e)
    have h3:=size_pos e
    simp only [Lx.cEdg,Lx.sizes,List.length_append,List.length_cons]
    omega
theorem cDec_le:∀ (es:List Lx.Ex) (lo:Nat),(Lx.cDec es lo).length≤2 * Lx.sizes es
  | [],lo=>by simp [Lx.cDec]
  | e::es,lo=>by
    have h1:=Lx.dcs_le e (lo+2)
    have h2:=cDec_le es (lo+2+Lx.nst e)
    simp only [Lx.cDec,Lx.sizes,List.length_append]
    omega
theorem cmK_succ {rs:List Lx.Ex} {k ru lo l1 l2:Nat} {s:Lx.Ex} (hk:rs[k]? = some s) (h0:lo=1+Lx.cN (rs.take k)) (h1:l1=lo+1) (h2:l2=lo+2) :
    (((((((((cmK rs k ru).setRu k).addS 2).addS 7).addN lo (k+1)).mk1 s).addE (Lx.ep 0 lo)).addE (Lx.ep lo (Lx.fstS s l2))).addE (Lx.ep (Lx.lstS s l2) l1))=cmK rs (k+1) k:=by
  have hl:=cmK_len (rs:=rs) (k:=k) (ru:=ru)
  have e1:(((cmK rs k ru).sts++[(2,k,0)])++[(7,k,0)]).length=lo+2:=by simp only [List.length_append,List.length_cons,List.length_nil,hl]; omega
  unfold BS.mk1 BS.addE BS.addS BS.addN BS.setRu
  simp only [e1]
  subst h1 h2
  unfold cmK
  rw [Lx.cSts_take hk,Lx.cStart_take hk,Lx.cEdg_take hk,Lx.cDec_take hk,← h0,List.range_succ]
  simp [List.append_assoc]
def CmRel (w0:World) (b:Nat) (r:List HP) (rs:List Lx.Ex) (i:Value) (wr:World):Prop :=
  ∃ k ru:Nat,k≤rs.length∧i=.int .i64 k∧BsW w0.heap.size w0 b (cmK rs k ru) r wr
theorem BsW.mk23 {V:NV} {a2 a3:Option Addr} {c2 c3 x y:Nat} (H:St B w0 (pts b 146 (((V.cs S).set 1 (.slice a2 (S.st.length+1) c2)).set 2 (.slice a3 (S.kd.length+1) c3))::Osl (.slice a3 (S.kd.length+1) c3) 3 1 (S.kd.length+1) (S.kd.flatMap inC++inC y) ::
    Osl (.slice a2 (S.st.length+1) c2) 3 1 (S.st.length+1) (S.st.flatMap inC++inC x)::V.r1 S::V.r4 S::V.r5 S::r) w):BsW B w0 b (S.addN x y) r w:=by
  unfold BS.addN
  refine ⟨{ V with a2:=a2,c2:=c2,a3:=a3,c3:=c3 },?_⟩
  simp only [NV.cells,NV.rows,List.length_append,List.length_cons,List.length_nil,Nat.zero_add,List.flatMap_append,List.flatMap_cons,List.flatMap_nil,List.append_nil,List.cons_append,List.nil_append]
  exact (H.pick 3).perm ((List.Perm.swap _ _ _).trans ((((List.Perm.swap _ _ _)).cons _).cons _))
theorem exV_cells {x:Nat} {T:TypeId} {op a b2:Int} {sa:Option Addr} {n c:Nat} (H:St B w0 (pts x T [.int .i64 op,.int .i64 a,.int .i64 b2,.slice sa n c]::r) w):w.cell? ⟨x,0,none⟩=some (.int .i64 op)∧w.cell? ⟨x,1,none⟩=some (.int .i64 a)∧w.cell? ⟨x,2,none⟩=some (.int .i64 b2)∧w.cell? ⟨x,3,none⟩=some (.slice sa n c) :=
  ⟨H.cells.1 0,H.cells.1 1,H.cells.1 2,H.cells.1 3⟩
def zNet:List Value:=[.slice none 0 0,.slice none 0 0,.slice none 0 0,.slice none 0 0,.slice none 0 0]
set_option maxRecDepth 100000 in
set_option maxHeartbeats 4000000 in
theorem c34 {rs:List Lx.Ex} {sa:Option Addr} {c:Nat} (hl:rs.length≤1000) (hsz:Lx.sizes rs≤10000) (hg:∀ e ∈ rs,∃ d,Lx.good d e=true) (hS:ExS w0 rs sa 0) :
    Calls Tryz.prog 34 #[.slice sa rs.length c] w0 fun e' w'=>∃ (V:NV) (ru:Nat),e'=.returned (.agg (V.cells (cmK rs rs.length ru)).toArray)∧St w0.heap.size w0 (V.rows (cmK rs rs.length ru)) w':=by
  have HS:=Lib.hid hS
  have Hg:=Lib.hid hg
  have H0:=((St.nil w0).alloc (ob 85 zNet)).alloc (ob 146 (zNet++[.int .i64 0]))
  have hs1:(w0.alloc (ob 85 zNet)).heap.size=w0.heap.size+1:=Array.size_push _
  rw [hs1] at H0
  have H1:BsW w0.heap.size w0 (w0.heap.size+1) ⟨[],[],[],[],[],0⟩ [pts w0.heap.size 85 zNet] ((w0.alloc (ob 85 zNet)).alloc (ob 146 (zNet++[.int .i64 0]))):=by
    refine ⟨⟨none,0,none,0,none,0,none,0,none,0⟩,?_⟩
    have:=((((St.ownNil H0 3 1).ownNil 91 6).ownNil 3 1).ownNil 3 1).ownNil 88 3
    exact this.pick 5
  have h48:=c48 (k:=6) (lo:=0) rfl (by omega) H1
  have h49:=fun W H=>c49 (w:=W) (b:=w0.heap.size+1) (B:=w0.heap.size) (w0:=w0) (r:=[pts w0.heap.size 85 zNet]) (S:=⟨[]++[(6,0,0)],[],[],[],[],0⟩) (s:=0) (by simp) H
  have H48:=Lib.hid h48
  have H49:=Lib.hid h49
  clear hS hg H0 H1 h48 h49 hs1
  go_enter Tryz.func34,Tryz.ntmps34
  go_wp2_with (first
    | (go_at_call 48; refine H48.out.mono ?_; rintro e w1 ⟨rfl,H2⟩)
    | (go_at_call 49; refine (H49.out _ H2).mono ?_; rintro e w2 ⟨rfl,H3⟩))
  have H4:=H3
  rw [cmK_zero (rs:=rs)] at H4
  clear H3 H2 H48 H49
  obtain ⟨b,hb⟩:∃ b,b=w0.heap.size+1:=⟨_,rfl⟩
  rw [← hb] at H4 ⊢
  have Hb:=Lib.hid hb
  clear hb
  go_loopw [18] (CmRel w0 b [pts w0.heap.size 85 zNet] rs) (fun i _=>rs.length - (intOf i).toNat)
  case atStart=>exact ⟨0,0,Nat.zero_le _,rfl,H4⟩
  case round =>
    clear H4
    obtain ⟨k,ru,hk,rfl,H1⟩:=hrel
    by_cases hlt:k<rs.length
    · obtain ⟨g2,o,op',a',b',sa',n',cc',rfl,hat⟩:=HS.out.get0 (List.getElem?_eq_getElem hlt)
      have hatw:=hat.mono H1.below
      have hk0:(0:Int)≤(k:Int):=Int.natCast_nonneg _
      have hk1:(k:Int)<(rs.length:Int):=by omega
      have e0:=hatw.c0
      have e1:=hatw.c1
      have e2:=hatw.c2
      have e3:=hatw.c3
      have hgk:=List.getElem?_eq_getElem hlt
      obtain ⟨lo,hlo⟩:∃ x,x=1+Lx.cN (rs.take k):=⟨_,rfl⟩
      obtain ⟨l1,hl1⟩:∃ x,x=lo+1:=⟨_,rfl⟩
      obtain ⟨l2,hl2⟩:∃ x,x=lo+2:=⟨_,rfl⟩
      have hsl:(cmK rs k ru).sts.length=lo:=by rw [cmK_len,hlo]
      have z1:=cN_le (rs.take k)
      have z2:=cEdg_le (rs.take k) 1
      have z3:=cDec_le (rs.take k) 1
      have z4:=sizes_take rs k
      have z5:Lx.size (rs[k]'hlt)≤10000:=by
        have:=sizes_succ hgk
        have:=sizes_take rs (k+1)
        omega
      have hstl:(cmK rs k ru).st.length=k:=by simp only [cmK,Lx.cStart_len,List.length_take]; omega
      have hkdl:(cmK rs k ru).kd.length=k:=by simp [cmK]
      have hel:(cmK rs k ru).ed.length≤70000:=by simp only [cmK]; omega
      have hdl:(cmK rs k ru).dc.length≤20001:=by simp only [cmK,List.length_cons]; omega
      obtain ⟨d,hd⟩:=Hg.out (rs[k]'hlt) (List.getElem_mem hlt)
      have hsuc:=cmK_succ (ru:=ru) hgk hlo hl1 hl2
      obtain ⟨V0,HO⟩:=(H1.alloc 28 [.int .i64 op',.int .i64 a',.int .i64 b',.slice sa' n' cc']).open
      obtain ⟨V9,H9⟩:=H1.open
      have q5:=(cs_get H9).2.2.2.2.2
      have e9:=World.new_ne wr _ q5
      have hbn : ¬ b=wr.heap.size:=fun h=>e9 h.symm
      have hf5:wr.frozen? ⟨b,5,none⟩=false:=H9.cells.2 5
      clear H9
      have q5':(wr.alloc (.cells #[.int .i64 op',.int .i64 a',.int .i64 b',.slice sa' n' cc'] 28)).cell? ⟨b,5,none⟩=some (.int .i64 ((cmK rs k ru).ru:Int)):=(cs_get HO).2.2.2.2.2
      have q5f:(wr.alloc (.cells #[.int .i64 op',.int .i64 a',.int .i64 b',.slice sa' n' cc'] 28)).frozen? ⟨b,5,none⟩=false:=HO.cells.2 5
      have HR:BsW w0.heap.size w0 b ((cmK rs k ru).setRu k) (pts wr.heap.size 28 [.int .i64 op',.int .i64 a',.int .i64 b',.slice sa' n' cc']::[pts w0.heap.size 85 zNet]) _:=⟨V0,HO.setCell (off:=5) (.int .i64 (k:Int))⟩
      have h48a:=c48a (S:=(cmK rs k ru).setRu k) (k:=2) (lo:=lo) hsl (by omega) HR
      have h48b:=fun W H=>c48a (w:=W) (b:=b) (B:=w0.heap.size) (w0:=w0) (r:=pts wr.heap.size 28 [.int .i64 op',.int .i64 a',.int .i64 b',.slice sa' n' cc']::[pts w0.heap.size 85 zNet]) (S:=((cmK rs k ru).setRu k).addS 2) (k:=7) (lo:=l1) (by rw [addS_len]; simp only [BS.setRu]; omega) (by omega) H
      have hst3:((((cmK rs k ru).setRu k).addS 2).addS 7).st.length=k:=hstl
      have hkd3:((((cmK rs k ru).setRu k).addS 2).addS 7).kd.length=k:=hkdl
      have h50:=fun (W:World) (H:BsW w0.heap.size w0 b (((((cmK rs k ru).setRu k).addS 2).addS 7).addN lo (k+1)) (pts wr.heap.size 28 [.int .i64 op',.int .i64 a',.int .i64 b',.slice sa' n' cc']::[pts w0.heap.size 85 zNet]) W) =>
        c50 (rs[k]'hlt) d hd b _ _ w0 W _ l2 (by simp only [BS.addS,BS.addN,BS.setRu,List.length_append,List.length_cons,List.length_nil]; omega) ⟨by simp only [BS.addS,BS.addN,BS.setRu,List.length_append,List.length_cons,List.length_nil]; omega,by simp only [BS.addS,BS.addN,BS.setRu]; omega,by simp only [BS.addS,BS.addN,BS.setRu]; omega⟩ hat.v H
      have hee:=Lx.edg_le (rs[k]'hlt) l2
      have hsl4:(((((cmK rs k ru).setRu k).addS 2).addS 7).addN lo (k+1)).sts.length=l2:=by simp only [BS.addS,BS.addN,BS.setRu,List.length_append,List.length_cons,List.length_nil]; omega
      have hed4:(((((cmK rs k ru).setRu k).addS 2).addS 7).addN lo (k+1)).ed.length≤70000:=hel
      have Hst3:=Lib.hid hst3
      have Hkd3:=Lib.hid hkd3
      have Hsuc:=Lib.hid hsuc
      have Hkm:=Lib.hid (show ((((cmK rs k ru).setRu k).addS 2).addS 7).kd.length+1≤maxLen∧(((((cmK rs k ru).setRu k).addS 2).addS 7).kd.length+1) * 8≤140737488355328 by rw [hkd3]; simp only [maxLen]; omega)
      have Hsm:=Lib.hid (show ((((cmK rs k ru).setRu k).addS 2).addS 7).st.length+1≤maxLen∧(((((cmK rs k ru).setRu k).addS 2).addS 7).st.length+1) * 8≤140737488355328 by rw [hst3]; simp only [maxLen]; omega)
      generalize hS4:(((((cmK rs k ru).setRu k).addS 2).addS 7).addN lo (k+1))=S4 at h50 hsl4 hed4 Hsuc
      have hed5:(S4.mk1 (rs[k]'hlt)).ed.length≤140000:=by
        simp only [BS.mk1,List.length_append,hsl4]; omega
      have h51a:=fun W H=>c51a (w:=W) (b:=b) (B:=w0.heap.size) (w0:=w0) (r:=pts wr.heap.size 28 [.int .i64 op',.int .i64 a',.int .i64 b',.slice sa' n' cc']::[pts w0.heap.size 85 zNet]) (S:=S4.mk1 (rs[k]'hlt)) (s:=0) (q:=lo) (by omega) H
      have h51b:=fun W H=>c51a (w:=W) (b:=b) (B:=w0.heap.size) (w0:=w0) (r:=pts wr.heap.size 28 [.int .i64 op',.int .i64 a',.int .i64 b',.slice sa' n' cc']::[pts w0.heap.size 85 zNet]) (S:=(S4.mk1 (rs[k]'hlt)).addE (Lx.ep 0 lo)) (s:=lo) (q:=Lx.fstS (rs[k]'hlt) l2) (by rw [addE_len]; omega) H
      have h51c:=fun W H=>c51a (w:=W) (b:=b) (B:=w0.heap.size) (w0:=w0) (r:=pts wr.heap.size 28 [.int .i64 op',.int .i64 a',.int .i64 b',.slice sa' n' cc']::[pts w0.heap.size 85 zNet]) (S:=((S4.mk1 (rs[k]'hlt)).addE (Lx.ep 0 lo)).addE (Lx.ep lo (Lx.fstS (rs[k]'hlt) l2))) (s:=Lx.lstS (rs[k]'hlt) l2) (q:=l1) (by rw [addE_len,addE_len]; omega) H
      have hw:=wrapS hlt (by omega)
      have Hw:=Lib.hid hw
      have H48a:=Lib.hid h48a
      have H48b:=Lib.hid h48b
      have H50:=Lib.hid h50
      have H51a:=Lib.hid h51a
      have H51b:=Lib.hid h51b
      have H51c:=Lib.hid h51c
      have HS4:=Lib.hid hS4
      have Hk1:=Lib.hid (show [Value.int .i64 ((k:Int)+1)]=inC (k+1) by simp [inC])
      have hkb:k<1000:=Nat.lt_of_lt_of_le hlt hl
      clear hw h48a h48b h50 h51a h51b h51c hS4 hsuc HR HO H1 hat hatw hsl z1 z2 z3 z4 z5 hstl hkdl hel hdl hd hee hsl4 hed4 hed5 hst3 hkd3 hlo hl1 hl2
      generalize (rs[k]'hlt)=sk at H50 H51a H51b H51c Hsuc hgk
      go_wp2_with (first
        | (go_at_call 51; refine (H51c.out _ E2).mono ?_; rintro e y3 ⟨rfl,E3⟩)
        | (go_at_call 51; refine (H51b.out _ E1).mono ?_; rintro e y2 ⟨rfl,E2⟩)
        | (go_at_call 51; refine (H51a.out _ E0).mono ?_; rintro e y1 ⟨rfl,E1⟩)
        | (go_at_call 50; refine (H50.out _ G4).mono ?_; rintro e y0 ⟨rfl,E0⟩)
        | (at_builtin; have G3':=G3; go_loud (refine wpList_append1_st rfl _ _ rfl sl45 (g:=_) (news:=[.int .i64 ((k:Int)+1)]) (((G3.alloc (ob 3 [.int .i64 ((k:Int)+1)])).pick 4).pick 1) rfl 1 rfl (World.size_setCell _ _ _).symm rfl (by simp [Value.oneCell']) Hkm.out.1 Hkm.out.2 ?_)
           intro a6 c6 w5 H7
           rw [Hk1.out] at H7
           have q2:w5.cell? ⟨b,2,none⟩=some (.slice V.a3 _ V.c3):=(H7.pick 1).cells.1 2
           have q2f:=(H7.pick 1).cells.2 2
           obtain ⟨x0,x1,x2,x3⟩:=exV_cells (H7.pick 6)
           have G4:=BsW.mk23 ((H7.pick 1).setCell (off:=2) (.slice a6 (((((cmK rs k ru).setRu k).addS 2).addS 7).kd.length+1) c6))
           rw [HS4.out] at G4
           clear H7)
        | (at_builtin; go_must (refine wpList_append1_st rfl _ _ rfl sl45 (g:=_) (news:=inC lo) (((HV.alloc (ob 3 (inC lo))).pick 3).pick 1) rfl 1 rfl rfl rfl (by simp [inC,Value.oneCell']) Hsm.out.1 Hsm.out.2 ?_)
           intro a5 c5 w4 H5
           have q1:=(cs_get (H5.pick 1)).2.1
           have q2:=(cs_get (H5.pick 1)).2.2.1
           have q1f:=(H5.pick 1).cells.2 1
           have G3:=(H5.pick 1).setCell (off:=1) (.slice a5 (((((cmK rs k ru).setRu k).addS 2).addS 7).st.length+1) c5)
           clear H5)
        | (go_at_call 48; refine (H48b.out _ G1).mono ?_; rintro e w3 ⟨rfl,G2⟩
           obtain ⟨V,HV⟩:=G2.open
           have q1:=(cs_get HV).2.1)
        | (go_at_call 48; refine H48a.out.mono ?_; rintro e w2 ⟨rfl,G1⟩))
      first | rw [Hw.out] | rw [show ((k:Int)+1)=((k+1:Nat):Int) from by omega]
      refine ⟨⟨k+1,k,hlt,rfl,?_⟩,measS hlt⟩
      rw [← Hsuc.out]
      exact E3.drop
    · have hk1 : ¬ (k:Int)<(rs.length:Int):=by omega
      have hkl:k=rs.length:=by omega
      subst hkl
      obtain ⟨V,HV⟩:=H1.open
      obtain ⟨q0,q1,q2,q3,q4,_⟩:=cs_get HV
      have H2:=(HV.pick 6)
      have y:=H2.cells.1
      have y0:=y 0
      have y1:=y 1
      have y2:=y 2
      have y3:=y 3
      have y4:=y 4
      have yf:=H2.cells.2
      simp only [zNet,List.getElem?_cons_zero,List.getElem?_cons_succ] at y0 y1 y2 y3 y4
      have H6:=((((H2.setCell (off:=0) (.slice V.a1 (cmK rs rs.length ru).sts.length V.c1)).setCell (off:=1) (.slice V.a2 (cmK rs rs.length ru).st.length V.c2)).setCell (off:=2) (.slice V.a3 (cmK rs rs.length ru).kd.length V.c3)).setCell (off:=3) (.slice V.a4 (cmK rs rs.length ru).ed.length V.c4)).setCell (off:=4) (.slice V.a5 (cmK rs rs.length ru).dc.length V.c5)
      have p:=H6.cells.1
      have p0:=p 0
      have p1:=p 1
      have p2:=p 2
      have p3:=p 3
      have p4:=p 4
      simp only [zNet,List.set_cons_zero,List.set_cons_succ,List.getElem?_cons_zero,List.getElem?_cons_succ] at p0 p1 p2 p3 p4
      have H8:=Lib.hid (H6.drop.drop)
      clear y p H1 H2 H6 HV
      go_wp2_with fail
      refine bodyPost_ret (v:=.agg (V.cells (cmK rs rs.length ru)).toArray) ?_ rfl ⟨V,ru,rfl,H8.out⟩
      clear H8
      generalize (World.setCell _ _ _)=W at p0 p1 p2 p3 p4 ⊢
      simp [results,Tryz.results34,go_sem,p0,p1,p2,p3,p4,NV.cells]
end Go.Proofs.YtbcngfgemjdllaaGreatDoor
end
