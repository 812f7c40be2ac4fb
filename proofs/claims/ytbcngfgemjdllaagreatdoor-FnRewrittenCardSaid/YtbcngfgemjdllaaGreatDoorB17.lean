/- Part 17: K2, K3, K4, K5. -/
import Derived.Test.YtbcngfgemjdllaaGreatDoorB16
set_option linter.unusedVariables false
set_option linter.unusedSimpArgs false
section
namespace Go.Proofs.YtbcngfgemjdllaaGreatDoor
open Go.RowKit Go.Own
def setA (l:List (Nat × Nat × Nat)) (i v:Nat):List (Nat × Nat × Nat):=l.modify i fun x=>(x.1,x.2.1,v)
theorem setA_len (l:List (Nat × Nat × Nat)) (i v:Nat):(setA l i v).length=l.length:=by simp [setA]
theorem setA_flat:∀ (l:List (Nat × Nat × Nat)) (i v:Nat),i<l.length→(l.flatMap stC).set (i * 3+2) (.int .i64 (v:Int))=(setA l i v).flatMap stC
  | [],i,v,h=>by simp at h
  | x::l,0,v,h=>by simp [setA,stC]
  | x::l,i+1,v,h=>by
    have ih:=setA_flat l i v (by simpa using h)
    rw [show (i+1) * 3+2=(i * 3+2)+1+1+1 from by omega]
    simp only [List.flatMap_cons,stC,setA,List.modify_succ_cons,List.cons_append,List.nil_append,List.set_cons_succ] at ih ⊢
    rw [ih]
theorem flat_len {α : Type} {f : α → List Value} {n:Nat} (hf:∀ x,(f x).length=n) (l:List α):(l.flatMap f).length=l.length * n:=by
  induction l with
  | nil=>simp
  | cons x l ih=>simp only [List.flatMap_cons,List.length_append,hf,ih,List.length_cons,Nat.add_mul]; omega
variable {B:Nat} {w0 w:World} {b:Nat} {S:BS} {r:List HP}
theorem BsW.setArg (H:BsW B w0 b S r w) {i:Nat} (hi:i<S.sts.length) (v:Nat):∃ g c u,w.cell? ⟨b,0,none⟩=some (.slice (some ⟨g,0,none⟩) S.sts.length c)∧w.cell? ⟨g,i * 3+2,none⟩=some u∧w.frozen? ⟨g,i * 3+2,none⟩=false ∧
    BsW B w0 b { S with sts:=setA S.sts i v } r (w.setCell ⟨g,i * 3+2,none⟩ (.int .i64 (v:Int))):=by
  obtain ⟨V,H⟩:=H.open
  have q0:=(cs_get H).1
  have hlt:i * 3+2<(S.sts.flatMap stC).length:=by rw [flat_len (n:=3) (fun _=>rfl)]; omega
  obtain ⟨g,c,e,h1,h2,h3⟩:=St.ownSet (H.pick 1) hlt (.int .i64 (v:Int))
  injection e with e1 _ e2
  rw [e1,e2] at q0
  rw [List.getElem?_eq_getElem hlt] at h1
  refine ⟨g,c,_,q0,h1,h2,V,?_⟩
  rw [setA_flat _ _ _ hi] at h3
  have h4:=h3.pick 1
  unfold NV.cells NV.rows
  simp only [setA_len]
  exact h4
def BS.mk1 (S:BS) (e:Lx.Ex):BS := { S with sts:=S.sts++(Lx.sts e S.sts.length).map fun x=>(x.1,S.ru,x.2),ed:=S.ed++Lx.edg e S.sts.length,dc:=S.dc++Lx.dcs e S.sts.length }
structure Fits (S:BS) (n:Nat):Prop where
  s:S.sts.length+5 * n<1000000
  e:S.ed.length+6 * n<1000000
  d:S.dc.length+2 * n<1000000
structure FitB (S:BS) (n:Nat):Prop where
  s:S.sts.length+5 * n+2<1000000
  e:S.ed.length+6 * n+1<1000000
  d:S.dc.length+2 * n+1<1000000
theorem Fits.toB {S:BS} {n:Nat} (h:Fits S (n+1)):FitB S n:=⟨by have:=h.s; omega,by have:=h.e; omega,by have:=h.d; omega⟩
def MkC (e:Lx.Ex):Prop:=∀ (b:Nat) (S:BS) (r:List HP) (w0 w:World) (v:Value) (lo:Nat),S.sts.length=lo→Fits S (Lx.size e)→ExV w0 e v→BsW w0.heap.size w0 b S r w →
  Calls Tryz.prog 50 #[bP b,v] w fun e' w'=>e'=.returned (.tuple #[.int .i64 (Lx.fstS e lo:Int),.int .i64 (Lx.lstS e lo:Int)])∧BsW w0.heap.size w0 b (S.mk1 e) r w'
theorem mk1_len (S:BS) (e:Lx.Ex):(S.mk1 e).sts.length=S.sts.length+Lx.nst e:=by simp [BS.mk1,Lx.sts_len]
theorem Fits.mk1 {S:BS} {e:Lx.Ex} {n:Nat} (h:Fits S (Lx.size e+n)):Fits (S.mk1 e) n:=by
  have h1:=Lx.nst_le e
  have h2:=Lx.edg_le e S.sts.length
  have h3:=Lx.dcs_le e S.sts.length
  have hs:=h.s
  have he:=h.e
  have hd:=h.d
  refine ⟨?_,?_,?_⟩
  · rw [mk1_len]; omega
  · simp only [BS.mk1,List.length_append]; omega
  · simp only [BS.mk1,List.length_append]; omega
def BS.blk (S:BS) (kind lo:Nat) (ss:List Lx.Ex):BS := { S with sts:=S.sts++((kind,S.ru,lo+1)::(8,S.ru,0)::(Lx.stss ss (lo+2)).map fun x=>(x.1,S.ru,x.2)),ed:=S.ed++Lx.edgAlt ss (lo+2) lo (lo+1),dc:=S.dc++Lx.dcss ss (lo+2) }
theorem blk_len {S:BS} {kind lo:Nat} {ss:List Lx.Ex} (h:S.sts.length=lo):(S.blk kind lo ss).sts.length=lo+2+Lx.nsts ss:=by
  simp only [BS.blk,List.length_append,List.length_cons,List.length_map]
  rw [Lx.stss_len ss (fun s _ lo=>Lx.sts_len s lo),h]; omega
theorem blk_succ {S:BS} {kind lo k:Nat} {ss:List Lx.Ex} {s:Lx.Ex} (h:S.sts.length=lo) (hk:ss[k]? = some s) :
    S.blk kind lo (ss.take (k+1)) = { ((S.blk kind lo (ss.take k)).mk1 s) with ed:=((S.blk kind lo (ss.take k)).mk1 s).ed++[Lx.ep lo (Lx.fstS s (lo+2+Lx.nsts (ss.take k)))]++[Lx.ep (Lx.lstS s (lo+2+Lx.nsts (ss.take k))) (lo+1)] } := by
  have hl:=blk_len (kind:=kind) (ss:=ss.take k) h
  unfold BS.mk1
  rw [hl]
  unfold BS.blk
  rw [Lx.stss_take hk,Lx.edgAlt_take hk,Lx.dcss_take hk]
  simp [List.append_assoc]
theorem blk_fits {S:BS} {kind lo k:Nat} {ss:List Lx.Ex} (h:S.sts.length=lo) (hf:FitB S (Lx.sizes ss)) (hk:k≤ss.length):Fits (S.blk kind lo (ss.take k)) (Lx.sizes (ss.drop k)):=by
  have hs:=hf.s
  have he:=hf.e
  have hd:=hf.d
  have hsz:Lx.sizes (ss.take k)+Lx.sizes (ss.drop k)=Lx.sizes ss:=by
    have:∀ (l m:List Lx.Ex),Lx.sizes (l++m)=Lx.sizes l+Lx.sizes m:=fun l m=>by
      induction l with
      | nil=>simp [Lx.sizes]
      | cons x l ih=>simp only [List.cons_append,Lx.sizes,ih]; omega
    rw [← this,List.take_append_drop]
  have h1:=Lx.nsts_le (M:=5) (ss.take k) fun s _=>Lx.nst_le s
  have h2:=Lx.edgAlt_le (M:=6) (ss.take k) (lo+2) lo (lo+1) fun s _ lo=>Lx.edg_le s lo
  have h3:=Lx.dcss_le (M:=2) (ss.take k) (lo+2) fun s _ lo=>Lx.dcs_le s lo
  refine ⟨?_,?_,?_⟩
  · rw [blk_len h]; omega
  · simp only [BS.blk,List.length_append]; omega
  · simp only [BS.blk,List.length_append]; omega
end Go.Proofs.YtbcngfgemjdllaaGreatDoor
end
section
namespace Go.Proofs.YtbcngfgemjdllaaGreatDoor
open Go.RowKit Go.Own
variable {B:Nat} {w0 w:World} {b:Nat} {S:BS} {r:List HP}
def BS.blkE (S:BS) (kind lo:Nat) (ss:List Lx.Ex) (may:Bool):BS := { S.blk kind lo ss with ed:=(S.blk kind lo ss).ed++(if may=true then [Lx.ep lo (lo+1)] else []),dc:=(S.blk kind lo ss).dc++[lo] }
theorem setA_blk {k ru v:Nat} : ∀ {l:List (Nat × Nat × Nat)} {lo:Nat},l.length=lo→setA (l++[(k,ru,0)]++[(8,ru,0)]) lo v=l++((k,ru,v)::(8,ru,0)::[])
  | [],_,h=>by subst h; rfl
  | x::l,_,h=>by
    subst h
    have ih:=setA_blk (k:=k) (ru:=ru) (v:=v) (l:=l) rfl
    unfold setA at ih ⊢
    simp only [List.cons_append,List.length_cons,List.modify_succ_cons]
    rw [ih]
theorem blk_zero {kind lo lo1:Nat} {ss:List Lx.Ex} (h:S.sts.length=lo) (h1:lo1=lo+1):({ S with sts:=setA (S.sts++[(kind,S.ru,0)]++[(8,S.ru,0)]) lo lo1 } : BS)=S.blk kind lo (ss.take 0):=by
  unfold BS.blk
  rw [setA_blk h,List.take_zero]
  subst h1
  simp [Lx.stss,Lx.edgAlt,Lx.dcss]
def BlRel (w0:World) (b:Nat) (S:BS) (r:List HP) (kind lo:Nat) (ss:List Lx.Ex) (i:Value) (wr:World):Prop :=
  ∃ k:Nat,k≤ss.length∧i=.int .i64 k∧BsW w0.heap.size w0 b (S.blk kind lo (ss.take k)) r wr
theorem Fits.le {n m:Nat} (h:Fits S n) (hm:m≤n):Fits S m:=⟨by have:=h.s; omega,by have:=h.e; omega,by have:=h.d; omega⟩
theorem drop_sizes {ss:List Lx.Ex} {k:Nat} {s:Lx.Ex} (hk:ss[k]? = some s):Lx.sizes (ss.drop k)=Lx.size s+Lx.sizes (ss.drop (k+1)):=by
  obtain ⟨hlt,he⟩:=List.getElem?_eq_some_iff.1 hk
  rw [List.drop_eq_getElem_cons hlt,he,Lx.sizes]
set_option maxRecDepth 100000 in
set_option maxHeartbeats 4000000 in
theorem c66 {kind lo:Nat} {ss:List Lx.Ex} {sa:Option Addr} {c:Nat} {may:Bool} (hlo:S.sts.length=lo) (hf:FitB S (Lx.sizes ss)) (hl:ss.length≤4) (ih:∀ s ∈ ss,MkC s) (hS:ExS w0 ss sa 0) (H:BsW w0.heap.size w0 b S r w) :
    Calls Tryz.prog 66 #[bP b,.int .i64 (kind:Int),.slice sa ss.length c,.bool may] w fun e w'=>e=.returned (.tuple #[.int .i64 (lo:Int),.int .i64 ((lo+1:Nat):Int)])∧BsW w0.heap.size w0 b (S.blkE kind lo ss may) r w':=by
  have hfs:=hf.s
  obtain ⟨lo1,hlo1⟩:∃ x,x=lo+1:=⟨_,rfl⟩
  have h48a:=c48 (k:=kind) hlo (by omega) H
  have h48b:=fun W H=>c48 (w:=W) (b:=b) (B:=w0.heap.size) (w0:=w0) (r:=r) (S := { S with sts:=S.sts++[(kind,S.ru,0)] }) (k:=8) (lo:=lo1) (by simp [hlo,hlo1]) (by omega) H
  have hset:=fun W H=>BsW.setArg (w:=W) (b:=b) (B:=w0.heap.size) (w0:=w0) (r:=r) (S := { S with sts:=S.sts++[(kind,S.ru,0)]++[(8,S.ru,0)] }) H (i:=lo) (by simp [hlo]) lo1
  have hbz:=blk_zero (kind:=kind) (ss:=ss) hlo hlo1
  have hlen2:(S.sts++[(kind,S.ru,0)]++[(8,S.ru,0)]).length=lo+2:=by simp [hlo]
  have HS:=Lib.hid hS
  have Hset:=Lib.hid hset
  have Hbz:=Lib.hid hbz
  have H48a:=Lib.hid h48a
  have H48b:=Lib.hid h48b
  have Hl1:=Lib.hid hlo1
  have Hlo:=Lib.hid hlo
  have Hf:=Lib.hid hf
  have hlo0:(0:Int)≤(lo:Int):=Int.natCast_nonneg _
  have hlo2:(lo:Int)<((lo+2:Nat):Int):=by omega
  clear hset hbz h48a h48b H hlo hlo1 hS hf
  rw [← Hl1.out]
  unfold bP
  go_enter Tryz.func66,Tryz.ntmps66
  go_wp2_with (first
    | (go_at_call 48; refine (H48b.out _ H1).mono ?_; rintro e w2 ⟨rfl,H2⟩
       obtain ⟨g,cc,u,k0,k1,k2,H3⟩:=Hset.out _ H2
       rw [hlen2] at k0)
    | (go_at_call 48; refine H48a.out.mono ?_; rintro e w1 ⟨rfl,H1⟩))
  have H4:=H3
  rw [Hbz.out] at H4
  clear H3 k0 k1 k2 Hset Hbz H48a H48b
  go_loopw [32] (BlRel w0 b S r kind lo ss) (fun i _=>ss.length - (intOf i).toNat)
  case atStart=>exact ⟨0,Nat.zero_le _,rfl,H4⟩
  case round =>
    clear H4
    obtain ⟨k,hk,rfl,H1⟩:=hrel
    by_cases hlt:k<ss.length
    · obtain ⟨g2,o,op',a',b',sa',n',cc',rfl,hat⟩:=HS.out.get0 (List.getElem?_eq_getElem hlt)
      have hatw:=hat.mono H1.below
      have hk0:(0:Int)≤(k:Int):=Int.natCast_nonneg _
      have hk1:(k:Int)<(ss.length:Int):=by omega
      have e0:=hatw.c0
      have e1:=hatw.c1
      have e2:=hatw.c2
      have e3:=hatw.c3
      have hg:=List.getElem?_eq_getElem hlt
      have hbf:=blk_fits (kind:=kind) Hlo.out Hf.out (Nat.le_of_lt hlt)
      have hds:=drop_sizes hg
      rw [hds] at hbf
      obtain ⟨lk,hlk⟩:∃ x,x=lo+2+Lx.nsts (ss.take k):=⟨_,rfl⟩
      have hbl:=blk_len (kind:=kind) (ss:=ss.take k) Hlo.out
      rw [← hlk] at hbl
      have hbs:=blk_succ (kind:=kind) Hlo.out hg
      rw [← hlk] at hbs
      have h50:=fun W (H:BsW w0.heap.size w0 b (S.blk kind lo (ss.take k)) (pts wr.heap.size 28 [.int .i64 op',.int .i64 a',.int .i64 b',.slice sa' n' cc']::r) W)=>ih ss[k] (List.getElem_mem hlt) b (S.blk kind lo (ss.take k)) (pts wr.heap.size 28 [.int .i64 op',.int .i64 a',.int .i64 b',.slice sa' n' cc']::r) w0 W _ lk hbl (hbf.le (by omega)) hat.v H
      have hb1:=hbf.mk1
      have h51a:=fun W H=>c51 (w:=W) (b:=b) (B:=w0.heap.size) (w0:=w0) (r:=r) (S:=(S.blk kind lo (ss.take k)).mk1 (ss[k]'hlt)) (s:=lo) (q:=Lx.fstS (ss[k]'hlt) lk) (by have:=hb1.e; omega) H
      have h51b:=fun W H=>c51 (w:=W) (b:=b) (B:=w0.heap.size) (w0:=w0) (r:=r) (S := { (S.blk kind lo (ss.take k)).mk1 (ss[k]'hlt) with ed:=((S.blk kind lo (ss.take k)).mk1 (ss[k]'hlt)).ed++[Lx.ep lo (Lx.fstS (ss[k]'hlt) lk)] }) (s:=Lx.lstS (ss[k]'hlt) lk) (q:=lo1) (by
        have:=hbf.e
        have h2:=Lx.edg_le (ss[k]'hlt) (S.blk kind lo (ss.take k)).sts.length
        simp only [BS.mk1,List.length_append,List.length_cons,List.length_nil]; omega) H
      have Hbs:=Lib.hid hbs
      have H50:=Lib.hid h50
      have H51a:=Lib.hid h51a
      have H51b:=Lib.hid h51b
      have hw:=wrapS hlt (by omega)
      have Hw:=Lib.hid hw
      have HA:=Lib.hid (H1.alloc 28 [.int .i64 op',.int .i64 a',.int .i64 b',.slice sa' n' cc'])
      clear h50 h51a h51b hw hbs hbl hbf hb1 hat hatw H1 hlk hds
      generalize ss[k]=sk at H50 H51a H51b Hbs hg
      go_wp2_with (first
        | (go_at_call 50; refine (H50.out _ HA.out).mono ?_; rintro e w2 ⟨rfl,H2⟩; have H2':=H2.drop)
        | (go_at_call 51; refine (H51b.out _ H3).mono ?_; rintro e w4 ⟨rfl,H4⟩)
        | (go_at_call 51; refine (H51a.out _ H2').mono ?_; rintro e w3 ⟨rfl,H3⟩))
      first | rw [Hw.out] | rw [show ((k:Int)+1)=((k+1:Nat):Int) from by omega]
      refine ⟨⟨k+1,hlt,rfl,?_⟩,measS hlt⟩
      rw [Hbs.out,← Hl1.out]
      exact H4
    · have hk1 : ¬ (k:Int)<(ss.length:Int):=by omega
      have hkl:k=ss.length:=by omega
      subst hkl
      rw [List.take_length] at H1
      have hbf:=blk_fits (kind:=kind) (k:=ss.length) Hlo.out Hf.out (Nat.le_refl _)
      rw [List.take_length,List.drop_length] at hbf
      have h51:=fun W H=>c51 (w:=W) (b:=b) (B:=w0.heap.size) (w0:=w0) (r:=r) (S:=S.blk kind lo ss) (s:=lo) (q:=lo1) (by have:=hbf.e; omega) H
      have h49:=fun W e' H=>c49 (w:=W) (b:=b) (B:=w0.heap.size) (w0:=w0) (r:=r) (S := { S.blk kind lo ss with ed:=e' }) (s:=lo) (by have:=hbf.d; simp only; omega) H
      have H49:=Lib.hid h49
      have H51:=Lib.hid h51
      have H11:=Lib.hid H1
      clear h49 h51 hbf H1
      cases may
      · go_wp2_with (first
          | (go_at_call 49; refine (H49.out _ _ H11.out).mono ?_; rintro e w4 ⟨rfl,H4⟩))
        go_ret2
        refine ⟨rfl,?_⟩
        unfold BS.blkE
        simp only [Bool.false_eq_true,if_false,List.append_nil]
        exact H4
      · go_wp2_with (first
          | (go_at_call 51; refine (H51.out _ H11.out).mono ?_; rintro e w3 ⟨rfl,H3⟩)
          | (go_at_call 49; refine (H49.out _ _ H3).mono ?_; rintro e w4 ⟨rfl,H4⟩))
        go_ret2
        refine ⟨rfl,?_⟩
        unfold BS.blkE
        simp only [if_true,← Hl1.out]
        exact H4
end Go.Proofs.YtbcngfgemjdllaaGreatDoor
end
section
namespace Go.Proofs.YtbcngfgemjdllaaGreatDoor
open Go.RowKit Go.Own
variable {B:Nat} {w0 w:World} {b:Nat} {S:BS} {r:List HP}
theorem BsW.part {x:Nat} {T:TypeId} {l:List Value} (H:BsW B w0 b S (pts x T l::r) w):(∀ o,w.cell? ⟨x,o,none⟩=l[o]?)∧∀ o,w.frozen? ⟨x,o,none⟩=false:=by
  obtain ⟨V,H⟩:=H.ex
  have H1:St B w0 (pts x T l::(pts b 146 (V.cells S++[.int .i64 (S.ru:Int)])::(V.rows S++r))) w:=H.pick 6
  exact H1.cells
theorem mk1_choice {a b2:Int} {ss:List Lx.Ex} : S.blkE 3 S.sts.length ss false=S.mk1 (.mk 2 a b2 ss):=by
  simp [BS.blkE,BS.blk,BS.mk1,Lx.sts,Lx.edg,Lx.dcs]
theorem mk1_may {a b2:Int} {ss:List Lx.Ex} : S.blkE 3 S.sts.length ss true=S.mk1 (.mk 5 a b2 ss):=by
  simp [BS.blkE,BS.blk,BS.mk1,Lx.sts,Lx.edg,Lx.dcs]
set_option maxRecDepth 100000 in
set_option maxHeartbeats 1000000 in
theorem c50_choice {a b2:Int} {ss:List Lx.Ex} {sa:Option Addr} {c lo:Nat} (hlo:S.sts.length=lo) (hf:Fits S (Lx.sizes ss+1)) (hl:ss.length≤4) (ih:∀ s ∈ ss,MkC s) (hS:ExS w0 ss sa 0) (H:BsW w0.heap.size w0 b S r w) :
    Calls Tryz.prog 50 #[bP b,exV 2 a b2 sa ss.length c] w fun e' w'=>e'=.returned (.tuple #[.int .i64 (lo:Int),.int .i64 ((lo+1:Nat):Int)])∧BsW w0.heap.size w0 b (S.mk1 (.mk 2 a b2 ss)) r w':=by
  have h66:=c66 (kind:=3) (may:=false) (c:=c) hlo hf.toB hl ih hS (H.alloc 28 [.int .i64 2,.int .i64 a,.int .i64 b2,.slice sa ss.length c])
  rw [← mk1_choice,hlo]
  have H66:=Lib.hid h66
  clear h66 ih hS H hf
  unfold bP exV
  go_enter Tryz.func50,Tryz.ntmps50
  go_wp2_with (first
    | (go_at_call 66; refine H66.out.mono ?_; rintro e w2 ⟨rfl,H2⟩))
  go_ret2
  exact ⟨rfl,H2.drop⟩
set_option maxRecDepth 100000 in
set_option maxHeartbeats 1000000 in
theorem c50_may {a b2:Int} {ss:List Lx.Ex} {sa:Option Addr} {c lo:Nat} (hlo:S.sts.length=lo) (hf:Fits S (Lx.sizes ss+1)) (hl:ss.length≤4) (ih:∀ s ∈ ss,MkC s) (hS:ExS w0 ss sa 0) (H:BsW w0.heap.size w0 b S r w) :
    Calls Tryz.prog 50 #[bP b,exV 5 a b2 sa ss.length c] w fun e' w'=>e'=.returned (.tuple #[.int .i64 (lo:Int),.int .i64 ((lo+1:Nat):Int)])∧BsW w0.heap.size w0 b (S.mk1 (.mk 5 a b2 ss)) r w':=by
  have h66:=c66 (kind:=3) (may:=true) (c:=c) hlo hf.toB hl ih hS (H.alloc 28 [.int .i64 5,.int .i64 a,.int .i64 b2,.slice sa ss.length c])
  rw [← mk1_may,hlo]
  have H66:=Lib.hid h66
  clear h66 ih hS H hf
  unfold bP exV
  go_enter Tryz.func50,Tryz.ntmps50
  go_wp2_with (first
    | (go_at_call 66; refine H66.out.mono ?_; rintro e w2 ⟨rfl,H2⟩))
  go_ret2
  exact ⟨rfl,H2.drop⟩
theorem mk1_star {a b2:Int} {ss:List Lx.Ex} {lo:Nat} (h:S.sts.length=lo) :
    ({ ({ S with sts:=S.sts++[(12,S.ru,0)]++[(10,S.ru,0)]++[(9,S.ru,0)] } : BS).blkE 5 (lo+3) ss false with
        sts:=setA (({ S with sts:=S.sts++[(12,S.ru,0)]++[(10,S.ru,0)]++[(9,S.ru,0)] } : BS).blkE 5 (lo+3) ss false).sts lo (lo+2),
        ed:=(({ S with sts:=S.sts++[(12,S.ru,0)]++[(10,S.ru,0)]++[(9,S.ru,0)] } : BS).blkE 5 (lo+3) ss false).ed++[Lx.ep (lo+1) (lo+3)]++[Lx.ep (lo+1) lo]++[Lx.ep (lo+4) (lo+2)]++[Lx.ep (lo+2) (lo+1)],
        dc:=(({ S with sts:=S.sts++[(12,S.ru,0)]++[(10,S.ru,0)]++[(9,S.ru,0)] } : BS).blkE 5 (lo+3) ss false).dc++[lo+1] } : BS)=S.mk1 (.mk 3 a b2 ss):=by
  have hset:∀ (l:List (Nat × Nat × Nat)) (k ru v:Nat) (m:List (Nat × Nat × Nat)),setA (l++(k,ru,0)::m) l.length v=l++(k,ru,v)::m:=by
    intro l k ru v m
    induction l with
    | nil=>rfl
    | cons x l ih=>unfold setA at ih ⊢; simp only [List.cons_append,List.length_cons,List.modify_succ_cons]; rw [ih]
  subst h
  have:=hset S.sts 12 S.ru (S.sts.length+2)
  simp [BS.blkE,BS.blk,BS.mk1,Lx.sts,Lx.edg,Lx.dcs,this]
theorem mk1_plus {a b2:Int} {ss:List Lx.Ex} {lo:Nat} (h:S.sts.length=lo) :
    ({ ({ S with sts:=S.sts++[(12,S.ru,0)]++[(11,S.ru,0)] } : BS).blkE 4 (lo+2) ss false with
        sts:=setA (({ S with sts:=S.sts++[(12,S.ru,0)]++[(11,S.ru,0)] } : BS).blkE 4 (lo+2) ss false).sts lo (lo+1),
        ed:=(({ S with sts:=S.sts++[(12,S.ru,0)]++[(11,S.ru,0)] } : BS).blkE 4 (lo+2) ss false).ed++[Lx.ep (lo+3) (lo+1)]++[Lx.ep (lo+1) (lo+2)]++[Lx.ep (lo+1) lo],
        dc:=(({ S with sts:=S.sts++[(12,S.ru,0)]++[(11,S.ru,0)] } : BS).blkE 4 (lo+2) ss false).dc++[lo+1] } : BS)=S.mk1 (.mk 4 a b2 ss):=by
  have hset:∀ (l:List (Nat × Nat × Nat)) (k ru v:Nat) (m:List (Nat × Nat × Nat)),setA (l++(k,ru,0)::m) l.length v=l++(k,ru,v)::m:=by
    intro l k ru v m
    induction l with
    | nil=>rfl
    | cons x l ih=>unfold setA at ih ⊢; simp only [List.cons_append,List.length_cons,List.modify_succ_cons]; rw [ih]
  subst h
  have:=hset S.sts 12 S.ru (S.sts.length+1)
  simp [BS.blkE,BS.blk,BS.mk1,Lx.sts,Lx.edg,Lx.dcs,this]
end Go.Proofs.YtbcngfgemjdllaaGreatDoor
end
section
namespace Go.Proofs.YtbcngfgemjdllaaGreatDoor
open Go.RowKit Go.Own
variable {B:Nat} {w0 w:World} {b:Nat} {S:BS} {r:List HP}
def BS.addS (S:BS) (k:Nat):BS := { S with sts:=S.sts++[(k,S.ru,0)] }
def BS.addE (S:BS) (d:Lx.Ed):BS := { S with ed:=S.ed++[d] }
def BS.addD (S:BS) (n:Nat):BS := { S with dc:=S.dc++[n] }
def BS.setR (S:BS) (i v:Nat):BS := { S with sts:=setA S.sts i v }
theorem addS_len (S:BS) (k:Nat):(S.addS k).sts.length=S.sts.length+1:=by simp [BS.addS]
theorem addE_len (S:BS) (d:Lx.Ed):(S.addE d).ed.length=S.ed.length+1:=by simp [BS.addE]
theorem addE_sts (S:BS) (d:Lx.Ed):(S.addE d).sts=S.sts:=rfl
theorem addE_dc (S:BS) (d:Lx.Ed):(S.addE d).dc=S.dc:=rfl
theorem addS_ed (S:BS) (k:Nat):(S.addS k).ed=S.ed:=rfl
theorem addS_dc (S:BS) (k:Nat):(S.addS k).dc=S.dc:=rfl
theorem setR_dc (S:BS) (i v:Nat):(S.setR i v).dc=S.dc:=rfl
theorem c48a {k lo:Nat} (hlo:S.sts.length=lo) (hl:lo<1000000) (H:BsW B w0 b S r w):Calls Tryz.prog 48 #[bP b,.int .i64 (k:Int)] w fun e w'=>e=.returned (.int .i64 (lo:Int))∧BsW B w0 b (S.addS k) r w':=c48 hlo hl H
theorem c49a {s:Nat} (hl:S.dc.length<1000000) (H:BsW B w0 b S r w):Calls Tryz.prog 49 #[bP b,.int .i64 (s:Int)] w fun e w'=>e=.returned (.tuple #[])∧BsW B w0 b (S.addD s) r w':=c49 hl H
theorem c51a {s q:Nat} (hl:S.ed.length<1000000) (H:BsW B w0 b S r w):Calls Tryz.prog 51 #[bP b,.int .i64 (s:Int),.int .i64 (q:Int)] w fun e w'=>e=.returned (.tuple #[])∧BsW B w0 b (S.addE (Lx.ep s q)) r w':=c51 hl H
theorem setArgA {i m:Nat} (hm:S.sts.length=m) (hi:i<m) (v:Nat) (H:BsW B w0 b S r w):∃ g c u,w.cell? ⟨b,0,none⟩=some (.slice (some ⟨g,0,none⟩) m c)∧w.cell? ⟨g,i * 3+2,none⟩=some u∧w.frozen? ⟨g,i * 3+2,none⟩=false ∧
    BsW B w0 b (S.setR i v) r (w.setCell ⟨g,i * 3+2,none⟩ (.int .i64 (v:Int))):=by
  subst hm
  exact H.setArg hi v
theorem c66' {kind lo lo1:Nat} {ss:List Lx.Ex} {sa:Option Addr} {c:Nat} {may:Bool} (h1:lo1=lo+1) (hlo:S.sts.length=lo) (hf:FitB S (Lx.sizes ss)) (hl:ss.length≤4) (ih:∀ s ∈ ss,MkC s) (hS:ExS w0 ss sa 0) (H:BsW w0.heap.size w0 b S r w) :
    Calls Tryz.prog 66 #[bP b,.int .i64 (kind:Int),.slice sa ss.length c,.bool may] w fun e w'=>e=.returned (.tuple #[.int .i64 (lo:Int),.int .i64 (lo1:Int)])∧BsW w0.heap.size w0 b (S.blkE kind lo ss may) r w':=by
  subst h1
  exact c66 hlo hf hl ih hS H
theorem blkE_len {kind lo:Nat} {ss:List Lx.Ex} {may:Bool} (h:S.sts.length=lo):(S.blkE kind lo ss may).sts.length=lo+2+Lx.nsts ss:=blk_len h
theorem blkE_bnd {kind lo:Nat} {ss:List Lx.Ex} (h:S.sts.length=lo) :
    (S.blkE kind lo ss false).ed.length≤S.ed.length+6 * Lx.sizes ss∧(S.blkE kind lo ss false).dc.length≤S.dc.length+2 * Lx.sizes ss+1∧(S.blkE kind lo ss false).sts.length≤lo+2+5 * Lx.sizes ss:=by
  have h1:=Lx.nsts_le (M:=5) ss fun s _=>Lx.nst_le s
  have h2:=Lx.edgAlt_le (M:=6) ss (lo+2) lo (lo+1) fun s _ lo=>Lx.edg_le s lo
  have h3:=Lx.dcss_le (M:=2) ss (lo+2) fun s _ lo=>Lx.dcs_le s lo
  rw [blkE_len h]
  simp only [BS.blkE,BS.blk,List.length_append,List.length_cons,List.length_nil,Bool.false_eq_true,if_false]
  omega
theorem mk1_star' {a b2:Int} {ss:List Lx.Ex} {lo l1 l2 l3 l4:Nat} (h:S.sts.length=lo) (hl1:l1=lo+1) (hl2:l2=lo+2) (hl3:l3=lo+3) (hl4:l4=lo+4):((((((((((S.addS 12).addS 10).addS 9).blkE 5 l3 ss false).addE (Lx.ep l1 l3)).addE (Lx.ep l1 lo)).addE (Lx.ep l4 l2)).addE (Lx.ep l2 l1)).setR lo l2).addD l1)=S.mk1 (.mk 3 a b2 ss):=by
  subst hl1 hl2 hl3 hl4
  rw [← mk1_star (a:=a) (b2:=b2) (ss:=ss) h]
  simp [BS.addS,BS.addE,BS.addD,BS.setR]
set_option maxRecDepth 100000 in
set_option maxHeartbeats 4000000 in
theorem c50_star {a b2:Int} {ss:List Lx.Ex} {sa:Option Addr} {c lo:Nat} (hlo:S.sts.length=lo) (hf:Fits S (Lx.sizes ss+1)) (hl:ss.length≤4) (ih:∀ s ∈ ss,MkC s) (hS:ExS w0 ss sa 0) (H:BsW w0.heap.size w0 b S r w) :
    Calls Tryz.prog 50 #[bP b,exV 3 a b2 sa ss.length c] w fun e' w'=>e'=.returned (.tuple #[.int .i64 ((lo+1:Nat):Int),.int .i64 (lo:Int)])∧BsW w0.heap.size w0 b (S.mk1 (.mk 3 a b2 ss)) r w':=by
  have hfs:=hf.s
  have hfe:=hf.e
  have hfd:=hf.d
  obtain ⟨l1,hl1⟩:∃ x,x=lo+1:=⟨_,rfl⟩
  obtain ⟨l2,hl2⟩:∃ x,x=lo+2:=⟨_,rfl⟩
  obtain ⟨l3,hl3⟩:∃ x,x=lo+3:=⟨_,rfl⟩
  obtain ⟨l4,hl4⟩:∃ x,x=lo+4:=⟨_,rfl⟩
  have hmk:=mk1_star' (a:=a) (b2:=b2) (ss:=ss) hlo hl1 hl2 hl3 hl4
  have h48_0:=c48a (k:=12) hlo (by omega) (H.alloc 28 [.int .i64 3,.int .i64 a,.int .i64 b2,.slice sa ss.length c])
  have h48_1:=fun W H=>c48a (w:=W) (b:=b) (B:=w0.heap.size) (w0:=w0) (r:=(pts w.heap.size 28 [.int .i64 3,.int .i64 a,.int .i64 b2,.slice sa ss.length c]::r)) (S:=(S.addS 12)) (k:=10) (lo:=l1) (by simp only [addS_len]; omega) (by omega) H
  have h48_2:=fun W H=>c48a (w:=W) (b:=b) (B:=w0.heap.size) (w0:=w0) (r:=(pts w.heap.size 28 [.int .i64 3,.int .i64 a,.int .i64 b2,.slice sa ss.length c]::r)) (S:=((S.addS 12).addS 10)) (k:=9) (lo:=l2) (by simp only [addS_len]; omega) (by omega) H
  have hSN:(((S.addS 12).addS 10).addS 9).sts.length=l3:=by simp only [addS_len]; omega
  have h66:=fun W H=>c66' (w:=W) (b:=b) (c:=c) (w0:=w0) (r:=(pts w.heap.size 28 [.int .i64 3,.int .i64 a,.int .i64 b2,.slice sa ss.length c]::r)) (S:=(((S.addS 12).addS 10).addS 9)) (kind:=5) (may:=false) (lo:=l3) (lo1:=l4) (by omega) hSN ⟨by rw [hSN]; omega,by simp only [addS_ed]; omega,by simp only [addS_dc]; omega⟩ hl ih hS H
  obtain ⟨be,bd,bs⟩:=blkE_bnd (kind:=5) (S:=(((S.addS 12).addS 10).addS 9)) (lo:=l3) (ss:=ss) hSN
  simp only [addS_ed,addS_dc] at be bd
  have h51_0:=fun W H=>c51a (w:=W) (b:=b) (B:=w0.heap.size) (w0:=w0) (r:=(pts w.heap.size 28 [.int .i64 3,.int .i64 a,.int .i64 b2,.slice sa ss.length c]::r)) (S:=((((S.addS 12).addS 10).addS 9).blkE 5 l3 ss false)) (s:=l1) (q:=l3) (by omega) H
  have h51_1:=fun W H=>c51a (w:=W) (b:=b) (B:=w0.heap.size) (w0:=w0) (r:=(pts w.heap.size 28 [.int .i64 3,.int .i64 a,.int .i64 b2,.slice sa ss.length c]::r)) (S:=(((((S.addS 12).addS 10).addS 9).blkE 5 l3 ss false).addE (Lx.ep l1 l3))) (s:=l1) (q:=lo) (by simp only [addE_len]; omega) H
  have h51_2:=fun W H=>c51a (w:=W) (b:=b) (B:=w0.heap.size) (w0:=w0) (r:=(pts w.heap.size 28 [.int .i64 3,.int .i64 a,.int .i64 b2,.slice sa ss.length c]::r)) (S:=((((((S.addS 12).addS 10).addS 9).blkE 5 l3 ss false).addE (Lx.ep l1 l3)).addE (Lx.ep l1 lo))) (s:=l4) (q:=l2) (by simp only [addE_len]; omega) H
  have h51_3:=fun W H=>c51a (w:=W) (b:=b) (B:=w0.heap.size) (w0:=w0) (r:=(pts w.heap.size 28 [.int .i64 3,.int .i64 a,.int .i64 b2,.slice sa ss.length c]::r)) (S:=(((((((S.addS 12).addS 10).addS 9).blkE 5 l3 ss false).addE (Lx.ep l1 l3)).addE (Lx.ep l1 lo)).addE (Lx.ep l4 l2))) (s:=l2) (q:=l1) (by simp only [addE_len]; omega) H
  obtain ⟨mm,hmm⟩:∃ x,x=l3+2+Lx.nsts ss:=⟨_,rfl⟩
  have hset:=fun W H=>setArgA (w:=W) (b:=b) (B:=w0.heap.size) (w0:=w0) (r:=(pts w.heap.size 28 [.int .i64 3,.int .i64 a,.int .i64 b2,.slice sa ss.length c]::r)) (S:=((((((((S.addS 12).addS 10).addS 9).blkE 5 l3 ss false).addE (Lx.ep l1 l3)).addE (Lx.ep l1 lo)).addE (Lx.ep l4 l2)).addE (Lx.ep l2 l1))) (i:=lo) (m:=mm) (by simp only [addE_sts]; rw [hmm]; exact blkE_len hSN) (by omega) l2 H
  have h49:=fun W H=>c49a (w:=W) (b:=b) (B:=w0.heap.size) (w0:=w0) (r:=(pts w.heap.size 28 [.int .i64 3,.int .i64 a,.int .i64 b2,.slice sa ss.length c]::r)) (S:=(((((((((S.addS 12).addS 10).addS 9).blkE 5 l3 ss false).addE (Lx.ep l1 l3)).addE (Lx.ep l1 lo)).addE (Lx.ep l4 l2)).addE (Lx.ep l2 l1)).setR lo l2)) (s:=l1) (by simp only [setR_dc,addE_dc]; omega) H
  have Hh48_0:=Lib.hid h48_0
  have Hh48_1:=Lib.hid h48_1
  have Hh48_2:=Lib.hid h48_2
  have Hh66:=Lib.hid h66
  have Hh51_0:=Lib.hid h51_0
  have Hh51_1:=Lib.hid h51_1
  have Hh51_2:=Lib.hid h51_2
  have Hh51_3:=Lib.hid h51_3
  have Hhset:=Lib.hid hset
  have Hh49:=Lib.hid h49
  have Hhmk:=Lib.hid hmk
  have hlo0:(0:Int)≤(lo:Int):=Int.natCast_nonneg _
  have hlo1:(lo:Int)<(mm:Int):=by omega
  rw [← hl1]
  clear h48_0 h48_1 h48_2 h66 h51_0 h51_1 h51_2 h51_3 hset h49 hmk ih hS H hf hfs hfe hfd be bd bs hSN hmm hl1 hl2 hl3 hl4
  unfold bP exV
  go_enter Tryz.func50,Tryz.ntmps50
  go_wp2_with (first
    | (go_at_call 49; refine (Hh49.out _ G5).mono ?_; rintro e w9 ⟨rfl,G6⟩)
    | (go_at_call 51; refine (Hh51_3.out _ E2).mono ?_; rintro e v3 ⟨rfl,E3⟩
       obtain ⟨g,cc,u,k0,k1,k2,G5⟩:=Hhset.out _ E3)
    | (go_at_call 51; refine (Hh51_2.out _ E1).mono ?_; rintro e v2 ⟨rfl,E2⟩)
    | (go_at_call 51; refine (Hh51_1.out _ E0).mono ?_; rintro e v1 ⟨rfl,E1⟩)
    | (go_at_call 51; refine (Hh51_0.out _ G3).mono ?_; rintro e v0 ⟨rfl,E0⟩)
    | (go_at_call 66; refine (Hh66.out _ G2).mono ?_; rintro e w3 ⟨rfl,G3⟩)
    | (go_at_call 48; refine (Hh48_2.out _ A1).mono ?_; rintro e u2 ⟨rfl,A2⟩
       have G2:=A2
       have x3:=(BsW.part A2).1 3)
    | (go_at_call 48; refine (Hh48_1.out _ A0).mono ?_; rintro e u1 ⟨rfl,A1⟩)
    | (go_at_call 48; refine Hh48_0.out.mono ?_; rintro e u0 ⟨rfl,A0⟩
       have x0:=(BsW.part A0).1 0))
  go_ret2
  refine ⟨rfl,?_⟩
  rw [← Hhmk.out]
  exact G6.drop
theorem mk1_plus' {a b2:Int} {ss:List Lx.Ex} {lo l1 l2 l3:Nat} (h:S.sts.length=lo) (hl1:l1=lo+1) (hl2:l2=lo+2) (hl3:l3=lo+3):((((((((S.addS 12).addS 11).blkE 4 l2 ss false).addE (Lx.ep l3 l1)).addE (Lx.ep l1 l2)).addE (Lx.ep l1 lo)).setR lo l1).addD l1)=S.mk1 (.mk 4 a b2 ss):=by
  subst hl1 hl2 hl3
  rw [← mk1_plus (a:=a) (b2:=b2) (ss:=ss) h]
  simp [BS.addS,BS.addE,BS.addD,BS.setR]
set_option maxRecDepth 100000 in
set_option maxHeartbeats 4000000 in
theorem c50_plus {a b2:Int} {ss:List Lx.Ex} {sa:Option Addr} {c lo:Nat} (hlo:S.sts.length=lo) (hf:Fits S (Lx.sizes ss+1)) (hl:ss.length≤4) (ih:∀ s ∈ ss,MkC s) (hS:ExS w0 ss sa 0) (H:BsW w0.heap.size w0 b S r w) :
    Calls Tryz.prog 50 #[bP b,exV 4 a b2 sa ss.length c] w fun e' w'=>e'=.returned (.tuple #[.int .i64 ((lo+2:Nat):Int),.int .i64 (lo:Int)])∧BsW w0.heap.size w0 b (S.mk1 (.mk 4 a b2 ss)) r w':=by
  have hfs:=hf.s
  have hfe:=hf.e
  have hfd:=hf.d
  obtain ⟨l1,hl1⟩:∃ x,x=lo+1:=⟨_,rfl⟩
  obtain ⟨l2,hl2⟩:∃ x,x=lo+2:=⟨_,rfl⟩
  obtain ⟨l3,hl3⟩:∃ x,x=lo+3:=⟨_,rfl⟩
  have hmk:=mk1_plus' (a:=a) (b2:=b2) (ss:=ss) hlo hl1 hl2 hl3
  have h48_0:=c48a (k:=12) hlo (by omega) (H.alloc 28 [.int .i64 4,.int .i64 a,.int .i64 b2,.slice sa ss.length c])
  have h48_1:=fun W H=>c48a (w:=W) (b:=b) (B:=w0.heap.size) (w0:=w0) (r:=(pts w.heap.size 28 [.int .i64 4,.int .i64 a,.int .i64 b2,.slice sa ss.length c]::r)) (S:=(S.addS 12)) (k:=11) (lo:=l1) (by simp only [addS_len]; omega) (by omega) H
  have hSN:((S.addS 12).addS 11).sts.length=l2:=by simp only [addS_len]; omega
  have h66:=fun W H=>c66' (w:=W) (b:=b) (c:=c) (w0:=w0) (r:=(pts w.heap.size 28 [.int .i64 4,.int .i64 a,.int .i64 b2,.slice sa ss.length c]::r)) (S:=((S.addS 12).addS 11)) (kind:=4) (may:=false) (lo:=l2) (lo1:=l3) (by omega) hSN ⟨by rw [hSN]; omega,by simp only [addS_ed]; omega,by simp only [addS_dc]; omega⟩ hl ih hS H
  obtain ⟨be,bd,bs⟩:=blkE_bnd (kind:=4) (S:=((S.addS 12).addS 11)) (lo:=l2) (ss:=ss) hSN
  simp only [addS_ed,addS_dc] at be bd
  have h51_0:=fun W H=>c51a (w:=W) (b:=b) (B:=w0.heap.size) (w0:=w0) (r:=(pts w.heap.size 28 [.int .i64 4,.int .i64 a,.int .i64 b2,.slice sa ss.length c]::r)) (S:=(((S.addS 12).addS 11).blkE 4 l2 ss false)) (s:=l3) (q:=l1) (by omega) H
  have h51_1:=fun W H=>c51a (w:=W) (b:=b) (B:=w0.heap.size) (w0:=w0) (r:=(pts w.heap.size 28 [.int .i64 4,.int .i64 a,.int .i64 b2,.slice sa ss.length c]::r)) (S:=((((S.addS 12).addS 11).blkE 4 l2 ss false).addE (Lx.ep l3 l1))) (s:=l1) (q:=l2) (by simp only [addE_len]; omega) H
  have h51_2:=fun W H=>c51a (w:=W) (b:=b) (B:=w0.heap.size) (w0:=w0) (r:=(pts w.heap.size 28 [.int .i64 4,.int .i64 a,.int .i64 b2,.slice sa ss.length c]::r)) (S:=(((((S.addS 12).addS 11).blkE 4 l2 ss false).addE (Lx.ep l3 l1)).addE (Lx.ep l1 l2))) (s:=l1) (q:=lo) (by simp only [addE_len]; omega) H
  obtain ⟨mm,hmm⟩:∃ x,x=l2+2+Lx.nsts ss:=⟨_,rfl⟩
  have hset:=fun W H=>setArgA (w:=W) (b:=b) (B:=w0.heap.size) (w0:=w0) (r:=(pts w.heap.size 28 [.int .i64 4,.int .i64 a,.int .i64 b2,.slice sa ss.length c]::r)) (S:=((((((S.addS 12).addS 11).blkE 4 l2 ss false).addE (Lx.ep l3 l1)).addE (Lx.ep l1 l2)).addE (Lx.ep l1 lo))) (i:=lo) (m:=mm) (by simp only [addE_sts]; rw [hmm]; exact blkE_len hSN) (by omega) l1 H
  have h49:=fun W H=>c49a (w:=W) (b:=b) (B:=w0.heap.size) (w0:=w0) (r:=(pts w.heap.size 28 [.int .i64 4,.int .i64 a,.int .i64 b2,.slice sa ss.length c]::r)) (S:=(((((((S.addS 12).addS 11).blkE 4 l2 ss false).addE (Lx.ep l3 l1)).addE (Lx.ep l1 l2)).addE (Lx.ep l1 lo)).setR lo l1)) (s:=l1) (by simp only [setR_dc,addE_dc]; omega) H
  have Hh48_0:=Lib.hid h48_0
  have Hh48_1:=Lib.hid h48_1
  have Hh66:=Lib.hid h66
  have Hh51_0:=Lib.hid h51_0
  have Hh51_1:=Lib.hid h51_1
  have Hh51_2:=Lib.hid h51_2
  have Hhset:=Lib.hid hset
  have Hh49:=Lib.hid h49
  have Hhmk:=Lib.hid hmk
  have hlo0:(0:Int)≤(lo:Int):=Int.natCast_nonneg _
  have hlo1:(lo:Int)<(mm:Int):=by omega
  rw [← hl2]
  clear h48_0 h48_1 h66 h51_0 h51_1 h51_2 hset h49 hmk ih hS H hf hfs hfe hfd be bd bs hSN hmm hl1 hl2 hl3
  unfold bP exV
  go_enter Tryz.func50,Tryz.ntmps50
  go_wp2_with (first
    | (go_at_call 49; refine (Hh49.out _ G5).mono ?_; rintro e w9 ⟨rfl,G6⟩)
    | (go_at_call 51; refine (Hh51_2.out _ E1).mono ?_; rintro e v2 ⟨rfl,E2⟩
       obtain ⟨g,cc,u,k0,k1,k2,G5⟩:=Hhset.out _ E2)
    | (go_at_call 51; refine (Hh51_1.out _ E0).mono ?_; rintro e v1 ⟨rfl,E1⟩)
    | (go_at_call 51; refine (Hh51_0.out _ G3).mono ?_; rintro e v0 ⟨rfl,E0⟩)
    | (go_at_call 66; refine (Hh66.out _ G2).mono ?_; rintro e w3 ⟨rfl,G3⟩)
    | (go_at_call 48; refine (Hh48_1.out _ A0).mono ?_; rintro e u1 ⟨rfl,A1⟩
       have G2:=A1
       have x3:=(BsW.part A1).1 3)
    | (go_at_call 48; refine Hh48_0.out.mono ?_; rintro e u0 ⟨rfl,A0⟩
       have x0:=(BsW.part A0).1 0))
  go_ret2
  refine ⟨rfl,?_⟩
  rw [← Hhmk.out]
  exact G6.drop
end Go.Proofs.YtbcngfgemjdllaaGreatDoor
end
