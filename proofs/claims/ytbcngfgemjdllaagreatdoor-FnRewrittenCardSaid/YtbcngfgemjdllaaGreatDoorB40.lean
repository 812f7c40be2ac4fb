/- Part 40: Z22, W5. -/
import Derived.RegionTactic
import Derived.ChangeAlike
import Derived.BigRegion
import Derived.Test.YtbcngfgemjdllaaGreatDoorB27
import Derived.Test.YtbcngfgemjdllaaGreatDoorB39
set_option linter.unusedVariables false
set_option linter.unusedSimpArgs false
section
namespace Go.Proofs.YtbcngfgemjdllaaGreatDoor
open Go.RowKit Go.Own
variable {B:Nat} {w0 w:World} {r:List HP}
def bkL (L:List LS) (n:Nat):Nat:=match L[n]? with | some y=>y.b | none=>0
theorem bkL_of {L:List LS} {n:Nat} {x:LS} (h:L[n]? = some x):bkL L n=x.b:=by unfold bkL; rw [h]
theorem cells8_D {q:Sq} {a:Value} {n:Int} (h:DOk q.k):(q.cells a n)[8]? = some (.bool false):=by
  unfold Sq.cells Sq.ex
  rcases h.is with h | h | h | h | h | h <;> rw [h] <;> rfl
theorem cells10_10 {q:Sq} {a:Value} {n:Int} (h:q.k=10):(q.cells a n)[10]? = some (.bool false):=by
  unfold Sq.cells Sq.ex
  rw [h]; rfl
theorem Mde.isIf {x:LS} : ifL x=.iface (ty x.q.k) (.pointer (some ⟨x.b,0,none⟩)):=rfl
section
variable {rules:List Lx.Ex} {bd bo at_:Nat} {dz:List Value} {A:AtC} {L4 L5:List LS} {ts:List TP} {sa:Option Addr} {sc g5 g6 g7 g8:Nat} {vs:List Value} {ga:Option Addr} {ca:Nat}
theorem Mde.netR (hg:Lx.GoodR rules) (hN:Lx.cN rules<100000) (hn:0<rules.length) (hEl:(Lx.cEdg rules 1).length<1000000) (h:Mde rules at_ A L4 L5 ts sa sc g5 g8 ga ca) (H:St B w0 (MdL rules bd bo dz at_ A L4 L5 ts sa sc g5 g6 g7 g8 vs ga ca++r) w) :
    NetR (Lx.nK rules) (bkL L5) (Lx.nOut rules) (Lx.nRu rules) (Lx.nKind rules) w.heap.size w (1+Lx.cN rules) at_ rules.length:=by
  have hst:=fun (n:Nat) (x:LS) (o:Nat) (u:Value) (hx:L5[n]? = some x) (hu:(x.q.cells (bP at_) (x.i:Int))[o]? = some u)=>(St.stCell (H.pick 3) hx hu:w.cell? ⟨x.b,o,none⟩=some u)
  have hget:=fun n (hn:n<1+Lx.cN rules)=>h.bas.get hn
  have hblt:∀ n,n<1+Lx.cN rules→bkL L5 n<w.heap.size:=fun n hn=>by
    obtain ⟨x,hx⟩:=hget n hn
    rw [bkL_of hx]
    exact World.block_lt_of_cell? _ _ (hst n x 4 _ hx rfl)
  refine ⟨⟨⟨?_,?_,hblt⟩,?_,?_,?_,?_,Lx.nPlain hg,?_⟩,?_,?_,?_,?_,?_,?_⟩
  · intro n hn
    have:=Lx.nK_ok hg hn
    exact ⟨this.1,this.2⟩
  · intro n hn
    obtain ⟨x,hx⟩:=hget n hn
    rw [bkL_of hx,hst n x 4 _ hx rfl,(h.bas.at_ n x hx).1]
  · intro n hn
    obtain ⟨x,hx⟩:=hget n hn
    rw [bkL_of hx,hst n x 2 _ hx rfl,h.eo n x hx]
  · intro n hn
    obtain ⟨x,hx⟩:=hget n hn
    have hmap:=outT_tr h.ds n
    have hlen:(outT ts n).length=(Lx.nOut rules n).length:=by rw [show Lx.nOut rules n=Lx.outL (Lx.cEdg rules 1) n from rfl,← hmap,List.length_map]
    have htl:=(h.v n x hx).tl
    refine ⟨x.q.ta,x.q.tc,?_,fun hne => ?_⟩
    · rw [bkL_of hx,hst n x 6 _ hx rfl,htl,List.length_map,hlen]
    · have hr:=vs_row (H.pick 3) hx htl
      have hget:∀ (j:Nat) (tr:Lx.Tr),(Lx.nOut rules n)[j]? = some tr→∃ y,(outT ts n)[j]? = some y∧y.d.tr=tr:=fun j tr hj=>by
        rw [show Lx.nOut rules n=Lx.outL (Lx.cEdg rules 1) n from rfl,← hmap,List.getElem?_map] at hj
        cases hy:(outT ts n)[j]? with
        | none=>rw [hy] at hj; simp at hj
        | some y=>rw [hy] at hj; exact ⟨y,rfl,by simpa using hj⟩
      obtain ⟨tr0,ht0⟩:∃ tr0,(Lx.nOut rules n)[0]? = some tr0:=by
        cases e:Lx.nOut rules n with
        | nil=>exact absurd e hne
        | cons a l=>exact ⟨a,rfl⟩
      obtain ⟨y0,hy0,_⟩:=hget 0 tr0 ht0
      obtain ⟨g,hgta,hgc⟩:=vs_y hr hy0
      refine ⟨g,hgta,World.block_lt_of_cell? _ _ (hgc 0 y0 hy0),fun j tr hj => ?_⟩
      obtain ⟨y,hy,hytr⟩:=hget j tr hj
      have hyts:=outT_mem (List.mem_of_getElem? hy)
      obtain ⟨t,ht,hT⟩:=h.tr y hyts
      have hto:tr.to=y.d.to:=by rw [← hytr]; unfold Lx.Ed.tr; (repeat' split) <;> rfl
      have htb:=fun (o:Nat) (u:Value) (hu:y.cs[o]? = some u)=>(St.tpCell (H.pick 4) hyts hu:w.cell? ⟨y.tb,o,none⟩=some u)
      refine ⟨by rw [hto]; exact h.bas.lt ht,y.tk,y.tb,hgc j y hy,?_⟩
      have heps:tr.isEps=(y.tk == 1):=by rw [← hytr]; exact hT.eps
      refine ⟨World.block_lt_of_cell? _ _ (htb 0 _ hT.c0),hT.ok,?_,?_,htb 4 _ hT.c4,?_,?_⟩
      · rw [htb 0 _ hT.c0,hto,bkL_of ht,← (h.bas.at_ _ t ht).2.2.1]; rfl
      · rw [htb 1 _ hT.c1,heps]
      · intro he; rw [heps] at he; simpa using he
      · intro a b q he
        have hk:=hT.kd
        rw [← hytr] at he
        rcases hT.ok.is with h1 | h2 | h5
        · rw [h1] at heps hk
          rw [he] at hytr
          rw [← hytr] at heps; simp [Lx.Tr.isEps] at heps
        · left
          obtain ⟨g1,g2⟩:=hT.s2 h2
          unfold Lx.Ed.tr at he
          rw [hk,h2] at he
          simp at he
          obtain ⟨e1,e2,_⟩:=he
          subst e1 e2
          exact ⟨h2,htb 5 _ g1,htb 6 _ g2⟩
        · right
          have g1:=hT.s5 h5
          unfold Lx.Ed.tr at he
          rw [hk,h5] at he
          simp at he
          obtain ⟨e1,e2,_⟩:=he
          subst e1 e2
          exact ⟨h5,rfl,htb 2 _ g1⟩
  · intro n hn hD
    obtain ⟨x,hx⟩:=hget n hn
    rw [bkL_of hx]
    exact hst n x 8 _ hx (cells8_D (by rw [(h.bas.at_ n x hx).2.2.1]; exact hD))
  · intro n hn hk
    exact Lx.nOut_stop hg hk
  · intro n hn
    have h1:(Lx.nOut rules n).length≤(Lx.cEdg rules 1).length:=by
      unfold Lx.nOut Lx.outL; rw [List.length_map]; exact List.length_filter_le _ _
    omega
  · intro n hn
    obtain ⟨x,hx⟩:=hget n hn
    rw [bkL_of hx,hst n x 3 _ hx rfl,(h.bas.at_ n x hx).2.2.2]
  · have z:=((H.pick 1).cells.1 0)
    exact World.block_lt_of_cell? _ _ (show w.cell? ⟨at_,0,none⟩=some A.dts from z)
  · have z:w.cell? ⟨at_,8,none⟩=some A.rtt:=(H.pick 1).cells.1 8
    rw [h.a8,ruN_len] at z
    have z8:=fun j=>(H.pick 10).cells.1 j
    refine ⟨g8,rules.length,?_,z,fun n hn hk => ?_⟩
    · have z0:=z8 0
      obtain ⟨x0,hx0⟩:∃ x0,(ruN rules)[0]? = some x0:=⟨_,List.getElem?_eq_getElem (by rw [ruN_len]; exact hn)⟩
      rw [List.getElem?_map,hx0] at z0
      exact World.block_lt_of_cell? _ _ z0
    · have h1:1≤n:=by
        rcases Nat.eq_zero_or_pos n with h0 | h0
        · subst h0; rw [Lx.nK_zero] at hk; omega
        · exact h0
      have hru:=Lx.nRu_lt hg h1 hn
      refine ⟨hru,?_⟩
      have z0:=z8 (Lx.nRu rules n)
      rw [z0,List.getElem?_map]
      obtain ⟨a,ha⟩:∃ a,(Lx.cStart rules 1)[Lx.nRu rules n]? = some a:=⟨_,List.getElem?_eq_getElem (by rw [Lx.cStart_len]; exact hru)⟩
      rw [ruN_of ha]
      simp [rtV,Lx.nKind]
  · have z:w.cell? ⟨at_,5,none⟩=some A.md:=(H.pick 1).cells.1 5
    obtain ⟨t,ht,hmd⟩:=h.a5
    rw [hmd] at z
    have z0:=(H.pick 8).cells.1 0
    refine ⟨g5,1,1,World.block_lt_of_cell? _ _ z0,Nat.one_pos,z,?_⟩
    rw [z0]
    unfold lkp
    rw [bkL_of ht,ht]; rfl
  · exact ⟨by omega,Lx.nK_zero⟩
  · omega
theorem Mde.decT (hE:(Lx.cDec rules 1).length<1000000) (h:Mde rules at_ A L4 L5 ts sa sc g5 g8 ga ca) (H:St B w0 (MdL rules bd bo dz at_ A L4 L5 ts sa sc g5 g6 g7 g8 vs ga ca++r) w) :
    DecT (Lx.nK rules) (bkL L5) w.heap.size w (1+Lx.cN rules) at_ (0::Lx.cDec rules 1):=by
  have hst:=fun (n:Nat) (x:LS) (o:Nat) (u:Value) (hx:L5[n]? = some x) (hu:(x.q.cells (bP at_) (x.i:Int))[o]? = some u)=>(St.stCell (H.pick 3) hx hu:w.cell? ⟨x.b,o,none⟩=some u)
  refine ⟨?_,?_,by simp only [List.length_cons]; omega,by simp⟩
  · have z:=((H.pick 1).cells.1 0)
    exact World.block_lt_of_cell? _ _ (show w.cell? ⟨at_,0,none⟩=some A.dts from z)
  · have z:w.cell? ⟨at_,0,none⟩=some A.dts:=(H.pick 1).cells.1 0
    rw [h.a0] at z
    obtain ⟨g,hgg,hgc⟩:=RowAt.of (H.pick 7) (by simp)
    subst hgg
    refine ⟨g,ca,World.block_lt_of_cell? _ _ (hgc 0 _ rfl),z,fun j s hj => ?_⟩
    have hk:=Lx.nDec (List.mem_of_getElem? hj)
    have hlt:s<1+Lx.cN rules:=Lx.nK_lt (by omega)
    obtain ⟨x,hx⟩:=h.bas.get hlt
    have hxk:=(h.bas.at_ s x hx).2.2.1
    refine ⟨hlt,⟨hk⟩,?_,?_,fun h10 => ?_⟩
    · rw [bkL_of hx]; exact World.block_lt_of_cell? _ _ (hst s x 4 _ hx rfl)
    · have:=hgc j (lk L4 s) (by rw [List.getElem?_map,hj]; rfl)
      rw [this,h.lks]
      unfold lk
      rw [hx,bkL_of hx,← hxk]; rfl
    · rw [bkL_of hx]
      exact hst s x 10 _ hx (cells10_10 (by rw [hxk]; exact h10))
end
end Go.Proofs.YtbcngfgemjdllaaGreatDoor
end
section
namespace Go.Proofs.YtbcngfgemjdllaaGreatDoor
open Go.RowKit Go.Own
def mtK (S:BS) (k:Nat):Nat:=(S.kd.take k).foldl max 0
def ruK (S:BS):List (Nat × Nat):=S.st.zip S.kd
theorem mtK_succ {S:BS} {k x:Nat} (h:S.kd[k]? = some x):mtK S (k+1)=max (mtK S k) x:=by
  unfold mtK
  rw [List.take_add_one,h]
  simp [List.foldl_append]
theorem ruK_get {S:BS} {k x y:Nat} (h1:S.st[k]? = some x) (h2:S.kd[k]? = some y):(ruK S)[k]? = some (x,y):=by
  unfold ruK
  rw [List.getElem?_zip_eq_some]
  exact ⟨h1,h2⟩
theorem gr_cells {B:Nat} {w0 w:World} {r:List HP} {b mt:Nat} {sS sR sM sE sD:Value} (H:St B w0 (pts b 137 (grC mt sS sR sM sE sD)::r) w):w.cell? ⟨b,0,none⟩=some (.bool true)∧w.cell? ⟨b,1,none⟩=some (.int .i64 (mt:Int))∧w.cell? ⟨b,2,none⟩=some sS∧w.cell? ⟨b,3,none⟩=some (.slice none 0 0)∧w.cell? ⟨b,4,none⟩=some (.slice none 0 0) ∧
    w.cell? ⟨b,5,none⟩=some sR∧w.cell? ⟨b,6,none⟩=some sM∧w.cell? ⟨b,7,none⟩=some (.slice none 0 0)∧w.cell? ⟨b,8,none⟩=some sE∧w.cell? ⟨b,9,none⟩=some sD∧w.cell? ⟨b,10,none⟩=some (.slice none 0 0) :=
  ⟨H.cells.1 0,H.cells.1 1,H.cells.1 2,H.cells.1 3,H.cells.1 4,H.cells.1 5,H.cells.1 6,H.cells.1 7,H.cells.1 8,H.cells.1 9,H.cells.1 10⟩
theorem bx_cells {B:Nat} {w0 w:World} {r:List HP} {b:Nat} {T:TypeId} {v0 v1 v2 v3 v4:Value} (H:St B w0 (pts b T [v0,v1,v2,v3,v4]::r) w):w.cell? ⟨b,0,none⟩=some v0∧w.cell? ⟨b,1,none⟩=some v1∧w.cell? ⟨b,2,none⟩=some v2∧w.cell? ⟨b,3,none⟩=some v3∧w.cell? ⟨b,4,none⟩=some v4 :=
  ⟨H.cells.1 0,H.cells.1 1,H.cells.1 2,H.cells.1 3,H.cells.1 4⟩
def BuRel {α : Type} (w:World) (b:Nat) (C:Nat→Value→List Value) (E:TypeId) (sz:Nat) (f : α → List Value) (l:List α) (r:List HP) (i:Value) (wr:World):Prop :=
  ∃ (k:Nat) (a:Option Addr) (c:Nat),k≤l.length∧i=.int .i64 k∧St w.heap.size w (pts b 137 (C k (.slice a k c))::Osl (.slice a k c) E sz k ((l.take k).flatMap f)::r) wr
def bxC (a1 a2 a3 a4 a5:Option Addr) (c1 c2 c3 c4 c5:Nat) (S:BS):List Value:=[.slice a1 S.sts.length c1,.slice a2 S.st.length c2,.slice a3 S.kd.length c3,.slice a4 S.ed.length c4,.slice a5 S.dc.length c5]
set_option maxRecDepth 100000 in
set_option maxHeartbeats 8000000 in
theorem c33a {w : World} {V : NV} {S : BS} (hN : NetV w V S) (hst : S.st.length < 1000) (hkd : S.kd.length = S.st.length) (hsl : S.sts.length < 1000000) (hel : S.ed.length < 1000000) (hdl : 0 < S.dc.length ∧ S.dc.length < 1000000) (hkb : ∀ x ∈ S.kd, x < 1000000) {Q : Ending → World → Prop}
    (hQ:∀ (W:World) (G:GV),Below w.heap.size w W→GrV W G S (ruK S)→Calls Tryz.prog 47 #[.agg (G.cells S (ruK S) (mtK S S.st.length)).toArray] W fun e W2=>∃ v,e=.returned v∧Calls Tryz.prog 46 #[v] W2 fun e w'=>(∃ p,e=.returned (.pointer p))∧Q e w') :
    Calls Tryz.prog 33 #[.agg (V.cells S).toArray] w Q:=by
  obtain ⟨gd,hgd,hgc⟩:=hN.r5 (by intro h; have:=congrArg List.length h; rw [flat_len (n:=1) (fun _=>rfl)] at this; simp at this; have:=hdl.1; rw [‹S.dc=[]›] at this; simp at this)
  obtain ⟨a1,c1,a2,c2,a3,c3,a4,c4,a5,c5⟩:=V
  simp only at hgd
  subst hgd
  obtain ⟨bx,hbx⟩:∃ x,x=bxC a1 a2 a3 a4 (some ⟨gd,0,none⟩) c1 c2 c3 c4 c5 S:=⟨_,rfl⟩
  have H0:=St.ownFull (m:=0) (sz:=1) (((St.nil w).alloc (ob 48 bx)).alloc (ob 3 [])) rfl (by simp [maxLen])
  rw [show (w.alloc (ob 48 bx)).heap.size=w.heap.size+1 from Array.size_push _] at H0
  have hml:0+S.dc.length≤maxLen∧(0+S.dc.length) * 8≤140737488355328:=by simp only [maxLen]; omega
  have hnews:∀ j u,(S.dc.flatMap inC)[j]? = some u→((w.alloc (ob 48 bx)).alloc (ob 3 [])).cell? ((⟨gd,0,none⟩:Addr).add j)=some u:=fun j u hj=>by
    have hadd:(⟨gd,0,none⟩:Addr).add j=⟨gd,j,none⟩:=by unfold Addr.add; split <;> simp_all
    have hc:=hgc j u hj
    have hlt:gd<w.heap.size:=World.block_lt_of_cell? _ _ hc
    rw [hadd,H0.below.cell (p:=⟨gd,j,none⟩) hlt]
    exact hc
  subst hbx
  have H00:=Lib.hid H0
  have hone:∀ u ∈ S.dc.flatMap inC,u.oneCell'=true:=by
    intro u hu
    obtain ⟨x,_,hx⟩:=List.mem_flatMap.1 hu
    simp [inC] at hx
    subst hx; rfl
  have Hnews:=Lib.hid hnews
  have Hone:=Lib.hid hone
  have Hml:=Lib.hid hml
  have HN:=Lib.hid hN
  have HQ:=Lib.hid hQ
  have Hkd:=Lib.hid hkd
  clear hnews hone hml hN hQ H0 hkd
  unfold NV.cells
  go_enter Tryz.func33,Tryz.ntmps33
  go_wp2_with (first
    | (at_builtin; go_loud (refine wpList_append_st rfl _ _ rfl sl45 H00.out rfl ⟨gd,0,none⟩ S.dc.length c5 (S.dc.flatMap inC) rfl (by rw [flat_len (n:=1) (fun _=>rfl)]) Hnews.out Hone.out Hml.out.1 Hml.out.2 ?_)
       intro ad cd w5 H5 _
       rw [Nat.zero_add,List.nil_append] at H5
       have H6:=(H5.alloc (ob 3 [.int .i64 0])).alloc (ob 137 (grC 0 (.slice none 0 0) (.slice none 0 0) (.slice (some ⟨w5.heap.size,0,none⟩) 1 1) (.slice none 0 0) (.slice ad S.dc.length cd)))
       rw [show (w5.alloc (ob 3 [.int .i64 0])).heap.size=w5.heap.size+1 from Array.size_push _] at H6
       have H7:St w.heap.size w [pts (w5.heap.size+1) 137 (grC 0 (.slice none 0 0) (.slice none 0 0) (.slice (some ⟨w5.heap.size,0,none⟩) 1 1) (.slice none 0 0) (.slice ad S.dc.length cd)),pts w5.heap.size 3 [.int .i64 0],Osl (.slice ad S.dc.length cd) 3 1 S.dc.length (S.dc.flatMap inC),pts w.heap.size 48 (bxC a1 a2 a3 a4 (some ⟨gd,0,none⟩) c1 c2 c3 c4 c5 S)]
         ((w5.alloc (.cells #[.int .i64 0] 3)).alloc (.cells #[.bool true,.int .i64 0,.slice none 0 0,.slice none 0 0,.slice none 0 0,.slice none 0 0,.slice (some ⟨w5.heap.size,0,none⟩) 1 1,.slice none 0 0,.slice none 0 0,.slice ad S.dc.length cd,.slice none 0 0] 137)):=H6
       have y1:=(bx_cells (H7.pick 3)).2.1
       clear H5 H6))
  obtain ⟨sD,hsD⟩:∃ v,v=Value.slice ad S.dc.length cd:=⟨_,rfl⟩
  clear H00 Hnews Hone
  have HsD:=Lib.hid hsD
  have HH:=Lib.hid H7
  clear H7
  go_loopw [19] (BuRel w (w5.heap.size+1) (fun k sv=>grC (mtK S k) (.slice none 0 0) sv (.slice (some ⟨w5.heap.size,0,none⟩) 1 1) (.slice none 0 0) (.slice ad S.dc.length cd)) 139 2 ruC (ruK S) [pts w5.heap.size 3 [.int .i64 0],Osl (.slice ad S.dc.length cd) 3 1 S.dc.length (S.dc.flatMap inC),pts w.heap.size 48 (bxC a1 a2 a3 a4 (some ⟨gd,0,none⟩) c1 c2 c3 c4 c5 S)]) (fun i _=>S.st.length - (intOf i).toNat)
  case atStart =>
    refine ⟨0,none,0,Nat.zero_le _,rfl,?_⟩
    have H8:=St.ownNil HH.out 139 2
    exact H8.pick 1
  case round =>
    obtain ⟨k,a,c,hk,rfl,H1⟩:=hrel
    have hrl:(ruK S).length=S.st.length:=by unfold ruK; rw [List.length_zip,Hkd.out,Nat.min_self]
    rw [hrl] at hk
    by_cases hlt:k<S.st.length
    · have hlt2:k<S.kd.length:=by rw [Hkd.out]; exact hlt
      obtain ⟨g2,h2a,h2c⟩:=HN.out.r2.get (f:=inC) (n:=1) (fun _=>rfl) (by omega) (List.getElem?_eq_getElem hlt)
      obtain ⟨g3,h3a,h3c⟩:=HN.out.r3.get (f:=inC) (n:=1) (fun _=>rfl) (by omega) (List.getElem?_eq_getElem hlt2)
      have h2:=h2c 0 _ rfl
      have h3:=h3c 0 _ rfl
      rw [Nat.mul_one,Nat.add_zero] at h2 h3
      have l2:g2<w.heap.size:=World.block_lt_of_cell? _ _ h2
      have l3:g3<w.heap.size:=World.block_lt_of_cell? _ _ h3
      have hmt:=mtK_succ (List.getElem?_eq_getElem hlt2)
      have hrk:=flat_take (f:=ruC) (ruK_get (List.getElem?_eq_getElem hlt) (List.getElem?_eq_getElem hlt2))
      have hyb:=hkb _ (List.getElem_mem hlt2)
      generalize S.st[k]=x at h2 hrk
      generalize S.kd[k]=y at h3 hrk hmt hyb
      have e2:wr.cell? ⟨g2,k,none⟩=some (.int .i64 (x:Int)):=by rw [H1.below.cell (p:=⟨g2,k,none⟩) l2]; exact h2
      have e3:∀ {r:List HP} {W:World},St w.heap.size w r W→W.cell? ⟨g3,k,none⟩=some (.int .i64 (y:Int)):=fun H=>by rw [H.below.cell (p:=⟨g3,k,none⟩) l3]; exact h3
      have hk0:(0:Int)≤(k:Int):=Int.natCast_nonneg _
      have hk1:(k:Int)<(S.st.length:Int):=by omega
      have hkd1:(k:Int)<(S.kd.length:Int):=by rw [Hkd.out]; exact hk1
      simp only at h2a h3a
      subst h2a
      have Hw:=Lib.hid (wrapS hlt (by omega))
      have HA:∀ o,St w.heap.size w (pto wr.heap.size o::Osl (.slice a k c) 139 2 k (((ruK S).take k).flatMap ruC)::pts (w5.heap.size+1) 137 (grC (mtK S k) (.slice none 0 0) (.slice a k c) (.slice (some ⟨w5.heap.size,0,none⟩) 1 1) (.slice none 0 0) (.slice ad S.dc.length cd))::pts w5.heap.size 3 [.int .i64 0]::Osl (.slice ad S.dc.length cd) 3 1 S.dc.length (S.dc.flatMap inC)::[pts w.heap.size 48 (bxC a1 (some ⟨g2,0,none⟩) a3 a4 (some ⟨gd,0,none⟩) c1 c2 c3 c4 c5 S)]) (wr.drew.alloc o):=fun o=>(H1.drew.pick 1).alloc o
      have hsa:∀ o,((wr.alloc o).drew).cell? ⟨w5.heap.size+1,5,none⟩=some (.slice a k c):=fun o=>(gr_cells ((H1.alloc o).drew.pick 1)).2.2.2.2.2.1
      have hsd:wr.drew.cell? ⟨w5.heap.size+1,5,none⟩=some (.slice a k c):=(gr_cells H1).2.2.2.2.2.1
      have hbx0:wr.cell? ⟨w.heap.size,2,none⟩=some (.slice (some ⟨g3,0,none⟩) S.kd.length c3):=by rw [← h3a]; exact (bx_cells (H1.pick 4)).2.2.1
      have e30:=e3 H1
      have Hh:=Lib.hid (And.intro h3a (And.intro hmt hrk))
      have hb0:∀ o,((wr.alloc o).drew).cell? ⟨w.heap.size,2,none⟩=some (.slice (some ⟨g3,0,none⟩) S.kd.length c3):=fun o=>by rw [← h3a]; exact (bx_cells ((H1.alloc o).drew.pick 5)).2.2.1
      have hb1:wr.drew.cell? ⟨w.heap.size,2,none⟩=some (.slice (some ⟨g3,0,none⟩) S.kd.length c3):=hbx0
      have e31:=e3 H1.drew
      have e32:∀ o,((wr.alloc o).drew).cell? ⟨g3,k,none⟩=some (.int .i64 (y:Int)):=fun o=>e3 ((H1.alloc o).drew)
      have E3:Hid (∀ {r:List HP} {W:World},St w.heap.size w r W→W.cell? ⟨g3,k,none⟩=some (.int .i64 (y:Int))):=Lib.hid (fun H=>e3 H)
      have HH1:=Lib.hid H1
      clear h2c h3c h2 h3 hmt hrk e3 h3a
      go_wp2_with fail
      go_region_law
        (first
          | (refine step_append1_st rfl _ _ rfl sl132 (g:=wr.heap.size) (news:=ruC (x,y)) (HA _) rfl 1 rfl rfl rfl (by simp [ruC,Value.oneCell']) (by simp only [maxLen]; omega) (by omega) ?_
             intro a6 c6 w6 H5
             have H6:=(H5.pick 1).setCell (off:=5) (.slice a6 (k+1) c6)
             have hcs:=(gr_cells (H5.pick 1)).2.2.2.2.2.1
             have hfs:=(H5.pick 1).cells.2 5))
      all_goals
        have H7:St w.heap.size w (pts (w5.heap.size+1) 137 (grC (mtK S k) (.slice none 0 0) (.slice a6 (k+1) c6) (.slice (some ⟨w5.heap.size,0,none⟩) 1 1) (.slice none 0 0) (.slice ad S.dc.length cd))::Osl (.slice a6 (k+1) c6) 139 2 (k+1) (((ruK S).take k).flatMap ruC++ruC (x,y))::pts w5.heap.size 3 [.int .i64 0]::Osl (.slice ad S.dc.length cd) 3 1 S.dc.length (S.dc.flatMap inC)::[pts w.heap.size 48 (bxC a1 (some ⟨g2,0,none⟩) a3 a4 (some ⟨gd,0,none⟩) c1 c2 c3 c4 c5 S)]) (w6.setCell ⟨w5.heap.size+1,5,none⟩ (.slice a6 (k+1) c6)):=H6
        rw [Hh.out.2.2] at H7
        clear H6 H5 HA hsa hsd hcs hfs
        generalize w6.setCell _ _=w7 at H7 ⊢
        have f0:w7.cell? ⟨w5.heap.size+1,1,none⟩=some (.int .i64 (mtK S k:Int)):=(gr_cells H7).2.1
        have f0d:w7.drew.cell? ⟨w5.heap.size+1,1,none⟩=some (.int .i64 (mtK S k:Int)):=f0
        have f1:w7.cell? ⟨w.heap.size,2,none⟩=some (.slice (some ⟨g3,0,none⟩) S.kd.length c3):=by rw [← Hh.out.1]; exact (bx_cells (H7.pick 4)).2.2.1
        have f1d:w7.drew.cell? ⟨w.heap.size,2,none⟩=some (.slice (some ⟨g3,0,none⟩) S.kd.length c3):=f1
        have f2:=E3.out H7
        have f2d:=E3.out H7.drew
        have f3:=H7.cells.2 1
        have f3d:=H7.drew.cells.2 1
        have HH7:=Lib.hid H7
        clear H7
        go_wp2_with fail
        go_region
        have hmx:(if mtK S k<y then (y:Int) else (mtK S k:Int))=((mtK S (k+1):Nat):Int):=by rw [Hh.out.2.1]; split <;> omega
        have HS:=HH7.out.setCell (off:=1) (.int .i64 (if mtK S k<y then (y:Int) else (mtK S k:Int)))
        rw [hmx] at HS ⊢
        have HS2:Hid (St w.heap.size w (pts (w5.heap.size+1) 137 (grC (mtK S (k+1)) (.slice none 0 0) (.slice a6 (k+1) c6) (.slice (some ⟨w5.heap.size,0,none⟩) 1 1) (.slice none 0 0) (.slice ad S.dc.length cd))::Osl (.slice a6 (k+1) c6) 139 2 (k+1) (((ruK S).take (k+1)).flatMap ruC)::pts w5.heap.size 3 [.int .i64 0]::Osl (.slice ad S.dc.length cd) 3 1 S.dc.length (S.dc.flatMap inC)::[pts w.heap.size 48 (bxC a1 (some ⟨g2,0,none⟩) a3 a4 (some ⟨gd,0,none⟩) c1 c2 c3 c4 c5 S)]) ((w7.setCell ⟨w5.heap.size+1,1,none⟩ (.int .i64 (mtK S (k+1):Int))).drew)):=Lib.hid HS.drew
        clear HS hmx f0 f0d f1 f1d f2 f2d f3 f3d
        generalize (w7.setCell _ _).drew=w8 at HS2 ⊢
        go_wp2_with fail
        first | rw [Hw.out] | rw [show ((k:Int)+1)=((k+1:Nat):Int) from by omega]
        exact ⟨⟨k+1,a6,c6,by rw [hrl]; exact hlt,rfl,HS2.out⟩,measS hlt⟩
    · have hk1 : ¬ (k:Int)<(S.st.length:Int):=by omega
      have hkl:k=S.st.length:=by omega
      subst hkl
      have htk:(ruK S).take S.st.length=ruK S:=by rw [← hrl,List.take_length]
      rw [htk] at H1
      have y0:=(bx_cells (H1.pick 4)).1
      obtain ⟨mt,hmt⟩:∃ m,m=mtK S S.st.length:=⟨_,rfl⟩
      have Hmt:=Lib.hid hmt
      dsimp only at H1
      rw [← hmt] at H1
      have HH1:=Lib.hid H1
      clear H1 htk hmt HH
      go_wp2_with fail
      go_loopw [49] (BuRel w (w5.heap.size+1) (fun k sv=>grC mt sv (.slice a S.st.length c) (.slice (some ⟨w5.heap.size,0,none⟩) 1 1) (.slice none 0 0) (.slice ad S.dc.length cd)) 140 3 stC S.sts [Osl (.slice a S.st.length c) 139 2 S.st.length ((ruK S).flatMap ruC),pts w5.heap.size 3 [.int .i64 0],Osl (.slice ad S.dc.length cd) 3 1 S.dc.length (S.dc.flatMap inC),pts w.heap.size 48 (bxC a1 a2 a3 a4 (some ⟨gd,0,none⟩) c1 c2 c3 c4 c5 S)]) (fun i _=>S.sts.length - (intOf i).toNat)
      case atStart =>
        refine ⟨0,none,0,Nat.zero_le _,rfl,?_⟩
        have H8:=St.ownNil HH1.out 140 3
        exact H8.pick 1
      case round =>
        clear HH1 y0
        obtain ⟨k,a6,c6,hk,rfl,H1⟩:=hrel
        by_cases hlt:k<S.sts.length
        · obtain ⟨g,hga,hgc⟩:=(HN.out.mono H1.below).r1.get (f:=stC) (n:=3) (fun _=>rfl) (by omega) (List.getElem?_eq_getElem hlt)
          have hk0:(0:Int)≤(k:Int):=Int.natCast_nonneg _
          have hk1:(k:Int)<(S.sts.length:Int):=by omega
          have e0:wr.cell? ⟨g,k * 3,none⟩=some (.int .i64 (S.sts[k].1:Int)):=hgc 0 _ rfl
          have e1:wr.cell? ⟨g,k * 3+1,none⟩=some (.int .i64 (S.sts[k].2.1:Int)):=hgc 1 _ rfl
          have e2:wr.cell? ⟨g,k * 3+2,none⟩=some (.int .i64 (S.sts[k].2.2:Int)):=hgc 2 _ rfl
          have hft:=flat_take (f:=stC) (List.getElem?_eq_getElem hlt)
          have hw:=wrapS hlt (by omega)
          have Hw:=Lib.hid hw
          have Hft:=Lib.hid hft
          have t0:=(gr_cells H1).2.2.1
          have x0:=World.block_lt_of_cell? _ _ t0
          have hn : ¬ w5.heap.size+1=wr.heap.size:=by simp only at x0; omega
          have Ha:=((H1.alloc (ob 89 (stC S.sts[k]))).alloc (ob 140 (stC S.sts[k])))
          rw [show (wr.alloc (ob 89 (stC S.sts[k]))).heap.size=wr.heap.size+1 from Array.size_push _] at Ha
          have HA:=Lib.hid ((Ha.pick 3).pick 1)
          simp only at hga
          subst hga
          clear hw hft hgc H1 Ha
          go_wp2_with (first
            | (at_builtin; go_must (refine wpList_append1_st rfl _ _ rfl sl131 (g:=wr.heap.size+1) (news:=stC S.sts[k]) HA.out rfl 1 rfl rfl rfl (by simp [stC,Value.oneCell']) (by simp only [maxLen]; omega) (by omega) ?_)
               intro a7 c7 w7 H5
               have q0:=(gr_cells (H5.pick 2)).2.2.1
               have q0f:=(H5.pick 2).cells.2 2
               have H6:=(H5.pick 2).setCell (off:=2) (.slice a7 (k+1) c7)
               clear H5))
          first | rw [Hw.out] | rw [show ((k:Int)+1)=((k+1:Nat):Int) from by omega]
          refine ⟨⟨k+1,a7,c7,hlt,rfl,?_⟩,measS hlt⟩
          rw [← Hft.out]
          exact (H6.pick 2).drop
        · have hk1 : ¬ (k:Int)<(S.sts.length:Int):=by omega
          have hkl:k=S.sts.length:=by omega
          subst hkl
          rw [List.take_length] at H1
          have y0:=(bx_cells (H1.pick 5)).2.2.2.1
          have HH1:=Lib.hid H1
          clear H1
          go_wp2_with fail
          go_loopw [69] (BuRel w (w5.heap.size+1) (fun k sv=>grC mt (.slice a6 S.sts.length c6) (.slice a S.st.length c) (.slice (some ⟨w5.heap.size,0,none⟩) 1 1) sv (.slice ad S.dc.length cd)) 141 6 edC S.ed [Osl (.slice a6 S.sts.length c6) 140 3 S.sts.length (S.sts.flatMap stC),Osl (.slice a S.st.length c) 139 2 S.st.length ((ruK S).flatMap ruC),pts w5.heap.size 3 [.int .i64 0],Osl (.slice ad S.dc.length cd) 3 1 S.dc.length (S.dc.flatMap inC),pts w.heap.size 48 (bxC a1 a2 a3 a4 (some ⟨gd,0,none⟩) c1 c2 c3 c4 c5 S)]) (fun i _=>S.ed.length - (intOf i).toNat)
          case atStart =>
            refine ⟨0,none,0,Nat.zero_le _,rfl,?_⟩
            have H8:=St.ownNil HH1.out 141 6
            exact H8.pick 1
          case round =>
            clear HH1 y0
            obtain ⟨k,a8,c8,hk,rfl,H1⟩:=hrel
            by_cases hlt:k<S.ed.length
            · obtain ⟨g,hga,hgc⟩:=(HN.out.mono H1.below).r4.get (f:=edC) (n:=6) (fun _=>rfl) (by omega) (List.getElem?_eq_getElem hlt)
              have hk0:(0:Int)≤(k:Int):=Int.natCast_nonneg _
              have hk1:(k:Int)<(S.ed.length:Int):=by omega
              have e0:wr.cell? ⟨g,k * 6,none⟩=some (.int .i64 (S.ed[k].src:Int)):=hgc 0 _ rfl
              have e1:wr.cell? ⟨g,k * 6+1,none⟩=some (.int .i64 (S.ed[k].to:Int)):=hgc 1 _ rfl
              have e2:wr.cell? ⟨g,k * 6+2,none⟩=some (.int .i64 S.ed[k].kind):=hgc 2 _ rfl
              have e3:wr.cell? ⟨g,k * 6+3,none⟩=some (.int .i64 S.ed[k].a1):=hgc 3 _ rfl
              have e4:wr.cell? ⟨g,k * 6+4,none⟩=some (.int .i64 S.ed[k].a2):=hgc 4 _ rfl
              have e5:wr.cell? ⟨g,k * 6+5,none⟩=some (.int .i64 0):=hgc 5 _ rfl
              have hft:=flat_take (f:=edC) (List.getElem?_eq_getElem hlt)
              have hw:=wrapS hlt (by omega)
              have Hw:=Lib.hid hw
              have Hft:=Lib.hid hft
              have t0:=(gr_cells H1).2.2.2.2.2.2.2.2.1
              have x0:=World.block_lt_of_cell? _ _ t0
              have hn : ¬ w5.heap.size+1=wr.heap.size:=by simp only at x0; omega
              have Ha:=((H1.alloc (ob 92 (edC S.ed[k]))).alloc (ob 141 (edC S.ed[k])))
              rw [show (wr.alloc (ob 92 (edC S.ed[k]))).heap.size=wr.heap.size+1 from Array.size_push _] at Ha
              have HA:=Lib.hid ((Ha.pick 3).pick 1)
              simp only at hga
              subst hga
              clear hw hft hgc H1 Ha
              go_wp2_with (first
                | (at_builtin; go_must (refine wpList_append1_st rfl _ _ rfl sl134 (g:=wr.heap.size+1) (news:=edC S.ed[k]) HA.out rfl 1 rfl rfl rfl (by simp [edC,Value.oneCell']) (by simp only [maxLen]; omega) (by omega) ?_)
                   intro a7 c7 w7 H5
                   have q0:=(gr_cells (H5.pick 2)).2.2.2.2.2.2.2.2.1
                   have q0f:=(H5.pick 2).cells.2 8
                   have H6:=(H5.pick 2).setCell (off:=8) (.slice a7 (k+1) c7)
                   clear H5))
              first | rw [Hw.out] | rw [show ((k:Int)+1)=((k+1:Nat):Int) from by omega]
              refine ⟨⟨k+1,a7,c7,hlt,rfl,?_⟩,measS hlt⟩
              rw [← Hft.out]
              exact (H6.pick 2).drop
            · have hk1 : ¬ (k:Int)<(S.ed.length:Int):=by omega
              have hkl:k=S.ed.length:=by omega
              subst hkl
              rw [List.take_length] at H1
              obtain ⟨z0,z1,z2,z3,z4,z5,z6,z7,z8,z9,z10⟩:=gr_cells H1
              have hG:GrV wr ⟨a6,c6,a,c,some ⟨w5.heap.size,0,none⟩,1,a8,c8,ad,cd⟩ S (ruK S) :=
                ⟨RowAt.of (H1.pick 2),RowAt.of (H1.pick 3),fun _=>⟨w5.heap.size,rfl,fun j u hj=>((H1.pick 4).cells.1 j).trans hj⟩,RowAt.of (H1.pick 1),RowAt.of (H1.pick 5)⟩
              have hcall:=HQ.out wr _ H1.below hG
              rw [← Hmt.out] at hcall
              unfold GV.cells at hcall
              dsimp only at hcall
              rw [hrl] at hcall
              have Hcall:=Lib.hid hcall
              clear hcall hG HQ
              go_wp2_with (first
                | (go_at_call 46; refine Hc2.out.mono ?_; rintro e w8 ⟨⟨p,rfl⟩,hQ8⟩
                   have HQ8:=Lib.hid hQ8
                   clear hQ8)
                | (go_at_call 47; refine (Hcall.out).mono ?_
                   rintro e w7 ⟨v,rfl,hc2⟩
                   have Hc2:=Lib.hid hc2
                   clear hc2))
              exact HQ8.out
end Go.Proofs.YtbcngfgemjdllaaGreatDoor
end
