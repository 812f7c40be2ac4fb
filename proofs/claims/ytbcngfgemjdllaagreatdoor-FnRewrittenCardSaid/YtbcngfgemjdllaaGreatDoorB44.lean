/- Part 44: M8. -/
import Derived.StillTailTactics
import Derived.Test.YtbcngfgemjdllaaGreatDoorB30
import Derived.Test.YtbcngfgemjdllaaGreatDoorB43
set_option linter.unusedVariables false
set_option linter.unusedSimpArgs false
namespace Go.Proofs.YtbcngfgemjdllaaGreatDoor
open Go.RowKit Go.Own
variable {B:Nat} {w0 w:World} {r:List HP}
def RBl (W:World) (n:Nat) (P:Nat→Prop) (i:Value) (wr:World):Prop:=∃ k:Nat,k≤n∧i=.int .i64 (k:Int)∧Below W.heap.size W wr∧P k
def Sm (m m':MX):Prop:=hS m.2.1=hS m'.2.1→m.2.1.length=m'.2.1.length→m.2.1=m'.2.1
def P2 (X:List MX) (m:MX) (o:Nat):Prop:=∀ (o':Nat) (m':MX),o'<o→X[o']? = some m'→Sm m m'
def PB (A:List Lx.Cf) (c:Lx.Cf) (d:Nat):Prop:=∀ (d':Nat) (c':Lx.Cf),d'<d→A[d']? = some c'→hN c=hN c'→c=c'
def PA (A:List Lx.Cf) (k:Nat):Prop:=∀ (k':Nat) (c:Lx.Cf),k'<k→A[k']? = some c→PB A c k'
def P1 (X:List MX) (i:Nat):Prop:=∀ (i':Nat) (m:MX),i'<i→X[i']? = some m→P2 X m i'∧PA m.2.2 m.2.2.length
theorem Below.alloc' (w:World) (o:Obj):Below w.heap.size w (w.alloc o):=((St.nil w).alloc o).below
theorem below_drew (w:World):Below w.heap.size w w.drew:=(St.nil w).drew.below
theorem bl_tr {a b c:World} (h:Below a.heap.size a b) (h2:Below b.heap.size b c):Below a.heap.size a c:=h.trans (h2.mono h.size)
structure CgAt (w:World) (g o:Nat) (x:Lx.Cf) (ca:Option Addr) (c:Nat):Prop where
  c0:w.cell? ⟨g,o,none⟩=some (.int .i64 (x.1:Int))
  c1:w.cell? ⟨g,o+1,none⟩=some (.int .i64 (x.2:Int))
  c2:w.cell? ⟨g,o+2,none⟩=some (.slice ca 3 c)
  c3:w.cell? ⟨g,o+3,none⟩=some (.bool false)
  c4:w.cell? ⟨g,o+4,none⟩=some (.bool false)
  c5:w.cell? ⟨g,o+5,none⟩=some (.int .i64 (hN x))
  row:RowAt w ca cxL
theorem CgAt.mono {w':World} {g o:Nat} {x:Lx.Cf} {ca:Option Addr} {c:Nat} (h:CgAt w g o x ca c) (hb:Below w.heap.size w w'):CgAt w' g o x ca c :=
  ⟨cell_mono hb h.c0,cell_mono hb h.c1,cell_mono hb h.c2,cell_mono hb h.c3,cell_mono hb h.c4,cell_mono hb h.c5,h.row.mono hb⟩
theorem CfF.at_ {a:Option Addr} {n c:Nat} {L:List Lx.Cf} (h:CfF w (.slice a n c) L) {k:Nat} {x:Lx.Cf} (hx:L[k]? = some x):∃ g ca cc,a=some ⟨g,0,none⟩∧CgAt w g (k * 6) x ca cc:=by
  obtain ⟨a',c',e,h1⟩:=h.ex
  injection e with e1 _ _
  subst e1
  obtain ⟨g,ca,cc,e2,h2,h3⟩:=h1 k x hx
  exact ⟨g,ca,cc,e2,h2 0 _ rfl,h2 1 _ rfl,h2 2 _ rfl,h2 3 _ rfl,h2 4 _ rfl,h2 5 _ rfl,h3⟩
theorem CfF.shape {v:Value} {L:List Lx.Cf} (h:CfF w v L):∃ a c,v=.slice a L.length c∧L.length≤c:=by
  obtain ⟨a,c,e,_⟩:=h.ex
  exact ⟨a,c,e,h.cap _ _ _ e⟩
theorem CgAt.box (w:World) {x:Lx.Cf} {ca:Option Addr} {c:Nat} (h:RowAt w ca cxL):CgAt (w.alloc (.cells #[.int .i64 (x.1:Int),.int .i64 (x.2:Int),.slice ca 3 c,.bool false,.bool false,.int .i64 (hN x)] 64)) w.heap.size 0 x ca c:=by
  have h1:=(St.nil w).alloc (ob 64 [.int .i64 (x.1:Int),.int .i64 (x.2:Int),.slice ca 3 c,.bool false,.bool false,.int .i64 (hN x)])
  exact ⟨h1.cells.1 0,h1.cells.1 1,h1.cells.1 2,h1.cells.1 3,h1.cells.1 4,h1.cells.1 5,h.mono h1.below⟩
theorem P2.step {X:List MX} {m y:MX} {o:Nat} (h:P2 X m o) (hy:X[o]? = some y) (hs:Sm m y):P2 X m (o+1):=fun o' m' ho hm=>by
  by_cases e:o'=o
  · subst e; rw [hy] at hm; cases hm; exact hs
  · exact h o' m' (by omega) hm
theorem PB.step {A:List Lx.Cf} {c y:Lx.Cf} {d:Nat} (h:PB A c d) (hy:A[d]? = some y) (hs:hN c=hN y→c=y):PB A c (d+1):=fun o' m' ho hm=>by
  by_cases e:o'=d
  · subst e; rw [hy] at hm; cases hm; exact hs
  · exact h o' m' (by omega) hm
theorem PA.step {A:List Lx.Cf} {c:Lx.Cf} {k:Nat} (h:PA A k) (hy:A[k]? = some c) (hs:PB A c k):PA A (k+1):=fun o' m' ho hm=>by
  by_cases e:o'=k
  · subst e; rw [hy] at hm; cases hm; exact hs
  · exact h o' m' (by omega) hm
theorem P1.step {X:List MX} {m:MX} {i:Nat} (h:P1 X i) (hy:X[i]? = some m) (h1:P2 X m i) (h2:PA m.2.2 m.2.2.length):P1 X (i+1):=fun o' m' ho hm=>by
  by_cases e:o'=i
  · subst e; rw [hy] at hm; cases hm; exact ⟨h1,h2⟩
  · exact h o' m' (by omega) hm
structure BoxAt (w:World) (b:Nat) (h:Int) (v1 v2:Value):Prop where
  b0:w.cell? ⟨b,0,none⟩=some (.int .i64 0)
  b1:w.cell? ⟨b,1,none⟩=some (.int .i64 h)
  b2:w.cell? ⟨b,2,none⟩=some v1
  b3:w.cell? ⟨b,3,none⟩=some v2
theorem BoxAt.mono {w':World} {b:Nat} {h:Int} {v1 v2:Value} (H:BoxAt w b h v1 v2) (hb:Below w.heap.size w w'):BoxAt w' b h v1 v2 :=
  ⟨cell_mono hb H.b0,cell_mono hb H.b1,cell_mono hb H.b2,cell_mono hb H.b3⟩
theorem BoxAt.new (w:World) (h:Int) (v1 v2:Value):BoxAt (w.alloc (.cells #[.int .i64 0,.int .i64 h,v1,v2] 61)) w.heap.size h v1 v2:=by
  have h1:=(St.nil w).alloc (ob 61 [.int .i64 0,.int .i64 h,v1,v2])
  exact ⟨h1.cells.1 0,h1.cells.1 1,h1.cells.1 2,h1.cells.1 3⟩
def Q14 (w:World) (P:Prop) (e:Ending) (w':World):Prop:=∃ b:Bool,e=.returned (.bool b)∧(b=true→P)∧Below w.heap.size w w'
set_option maxRecDepth 100000 in
set_option maxHeartbeats 40000000 in
theorem c14 {rules : List Lx.Ex} {n : Nat} (hG : GdR rules n) {sa : Option Addr} {c0 : Nat} (hE : ExS w rules sa 0) {s : ByteArray} (ht : ∀ c ∈ tx s, c ≤ 127) (hl : s.size ≤ 60) :
    Calls Tryz.prog 14 #[.slice sa rules.length c0,.string s] w (Q14 w (P1 (AX rules n (tx s)) (AX rules n (tx s)).length)):=by
  have h21:=c21 (c:=c0) (by have:=hG.len; omega) hG.size (fun e he=>(hG.good e he).1) hE
  have H21:=Lib.hid h21
  have HG:=Lib.hid (And.intro hG (And.intro ht hl))
  obtain ⟨X,hX0⟩:∃ X,X=AX rules n (tx s):=⟨_,rfl⟩
  have hz0:∀ x ∈ X,x.1=0:=fun x hx=>by
    rw [hX0] at hx
    obtain ⟨q,_,rfl⟩:=List.mem_map.1 hx
    rfl
  rw [← hX0]
  have HX0:=Lib.hid (And.intro hX0 hz0)
  clear h21 hG hE ht hl hX0 hz0
  go_enter Tryz.func14,Tryz.ntmps14
  go_wp2_with fail
  go_at_call 21
  refine H21.out.mono ?_
  rintro e w1 ⟨V,ru,rfl,hN1,hb⟩
  have H27:=Lib.hid (c27 HG.out.1 hN1 HG.out.2.1 HG.out.2.2)
  have HB1:=Lib.hid hb
  clear hN1 hb
  go_wp2_with fail
  go_at_call 27
  refine H27.out.mono ?_
  rintro e w2 ⟨v,rfl,hM,hax,hb2⟩
  rw [← HX0.out.1] at hM hax
  have HB2:=Lib.hid (bl_tr HB1.out hb2)
  obtain ⟨a,c,rfl,hM1⟩:=hM.ex
  have hcap:=hM.cap _ _ _ rfl
  have HM:=Lib.hid hM1
  have hXl:=hax.len
  have HAX:=Lib.hid hax.each
  clear hax
  clear hM hM1 hb2
  go_wp2_with fail
  go_loopw [21] (RBl w2 X.length (P1 X)) (fun i _=>X.length - (intOf i).toNat)
  case atStart=>exact ⟨0,Nat.zero_le _,rfl,Below.refl _ _,fun _ _ h=>absurd h (Nat.not_lt_zero _)⟩
  case round =>
    obtain ⟨i,hi,rfl,hbi,hP⟩:=hrel
    obtain ⟨wi,hwi⟩:∃ w',w'=wr:=⟨_,rfl⟩
    subst hwi
    by_cases hlt:i<X.length
    · have hi0 : (0 : Int) ≤ (i : Int) := Int.natCast_nonneg _
      have hi1:(i:Int)<(X.length:Int):=by omega
      have hic:(i:Int)≤(c:Int):=by omega
      have Hw:=Lib.hid (wrapS hlt (by omega))
      obtain ⟨x,hx⟩:∃ x,X[i]? = some x:=⟨_,List.getElem?_eq_getElem hlt⟩
      obtain ⟨g,vc,va,rfl,hcs,hfc,hfa⟩:=HM.out i x hx
      have hx0:=HX0.out.2 x (List.mem_of_getElem? hx)
      obtain ⟨x1,L,A⟩:=x
      dsimp only at hx0
      subst hx0
      obtain ⟨ac,cc1,rfl,hcc⟩:=hfc.shape
      obtain ⟨aa,ca1,rfl,hca⟩:=hfa.shape
      have e0:wi.cell? ⟨g,i * 4,none⟩=some (.int .i64 0):=cell_mono hbi (hcs 0 _ rfl)
      have e1:wi.cell? ⟨g,i * 4+1,none⟩=some (.int .i64 (hS L)):=cell_mono hbi (hcs 1 _ rfl)
      have e2:wi.cell? ⟨g,i * 4+2,none⟩=some (.slice ac L.length cc1):=cell_mono hbi (hcs 2 _ rfl)
      have e3:wi.cell? ⟨g,i * 4+3,none⟩=some (.slice aa A.length ca1):=cell_mono hbi (hcs 3 _ rfl)
      have HF:=Lib.hid (And.intro hfc (And.intro hfa (And.intro hx (And.intro hP hbi))))
      clear hcs hfc hfa hx hP hbi
      have HT:=Lib.hid (BoxAt.new wi (hS L) (.slice ac L.length cc1) (.slice aa A.length ca1))
      have hAl:=HAX.out _ (List.mem_of_getElem? HF.out.2.2.1)
      dsimp only at hAl
      go_wp2_with fail
      go_loopw [30] (RBl (wi.alloc (.cells #[.int .i64 0,.int .i64 (hS L),.slice ac L.length cc1,.slice aa A.length ca1] 61)) i (P2 X (0,L,A))) (fun o _=>i - (intOf o).toNat)
      case atStart=>exact ⟨0,Nat.zero_le _,rfl,Below.refl _ _,fun _ _ h=>absurd h (Nat.not_lt_zero _)⟩
      case round =>
        clear e0 e1 e2 e3
        obtain ⟨o,ho,rfl,hbo,hPo⟩:=hrel
        obtain ⟨wo,hwo⟩:∃ w',w'=wr:=⟨_,rfl⟩
        subst hwo
        have hwo2:=bl_tr (bl_tr HF.out.2.2.2.2 (Below.alloc' wi (.cells #[.int .i64 0,.int .i64 (hS L),.slice ac L.length cc1,.slice aa A.length ca1] 61))) hbo
        by_cases hlt2:o<i
        · have ho0 : (0 : Int) ≤ (o : Int) := Int.natCast_nonneg _
          have ho1:(o:Int)<(i:Int):=by omega
          have Hw2:=Lib.hid (wrapS hlt2 (by omega))
          obtain ⟨y,hy⟩:∃ y,X[o]? = some y:=⟨_,List.getElem?_eq_getElem (by omega)⟩
          obtain ⟨g2,vc2,va2,e4,hcs,hfc,hfa⟩:=HM.out o y hy
          injection e4 with e4
          injection e4 with e4 _ _
          subst e4
          have hy0:=HX0.out.2 y (List.mem_of_getElem? hy)
          obtain ⟨y1,L2,A2⟩:=y
          dsimp only at hy0
          subst hy0
          obtain ⟨ac2,cc2,rfl,hcc2⟩:=hfc.shape
          obtain ⟨aa2,ca2,rfl,hca2⟩:=hfa.shape
          have f0:wo.cell? ⟨g,o * 4,none⟩=some (.int .i64 0):=cell_mono hwo2 (hcs 0 _ rfl)
          have f1:wo.cell? ⟨g,o * 4+1,none⟩=some (.int .i64 (hS L2)):=cell_mono hwo2 (hcs 1 _ rfl)
          have f2:wo.cell? ⟨g,o * 4+2,none⟩=some (.slice ac2 L2.length cc2):=cell_mono hwo2 (hcs 2 _ rfl)
          have f3:wo.cell? ⟨g,o * 4+3,none⟩=some (.slice aa2 A2.length ca2):=cell_mono hwo2 (hcs 3 _ rfl)
          have hbY:=bl_tr hbo (Below.alloc' wo (.cells #[.int .i64 0,.int .i64 (hS L2),.slice ac2 L2.length cc2,.slice aa2 A2.length ca2] 61))
          have hT:=HT.out.mono hbY
          have hT2:=BoxAt.new wo (hS L2) (.slice ac2 L2.length cc2) (.slice aa2 A2.length ca2)
          have t0:=hT.b0
          have t1:=hT.b1
          have t2:=hT.b2
          have u0:=hT2.b0
          have u1:=hT2.b1
          have u2:=hT2.b2
          have HO:=Lib.hid (And.intro hfc (And.intro hy (And.intro hPo (And.intro hbY (And.intro hT (And.intro hT2 hwo2))))))
          clear hcs hfc hfa hy hPo hbY hT hT2 hwo2 hbo
          by_cases hh:hS L=hS L2
          · by_cases hll:L.length=L2.length
            · have hb1:(hS L != hS L2)=false:=by rw [hh]; exact bne_self_eq_false _
              have hb2:((L.length:Int) != (L2.length:Int))=false:=by rw [hll]; exact bne_self_eq_false _
              have HLL:=Lib.hid (And.intro hh hll)
              have hL2:=hAl.1
              clear hh hll
              go_wp2_with fail
              go_loopw [58] (RBl (wo.alloc (.cells #[.int .i64 0,.int .i64 (hS L2),.slice ac2 L2.length cc2,.slice aa2 A2.length ca2] 61)) L.length (fun k=>∀ k':Nat,k'<k→L[k']? = L2[k']?)) (fun k _=>L.length - (intOf k).toNat)
              case atStart=>exact ⟨0,Nat.zero_le _,rfl,Below.refl _ _,fun _ h=>absurd h (Nat.not_lt_zero _)⟩
              case round =>
                clear t0 t1 t2 u0 u1 u2 f0 f1 f2 f3
                obtain ⟨k,hk,rfl,hbk,hPk⟩:=hrel
                obtain ⟨wk,hwk⟩:∃ w',w'=wr:=⟨_,rfl⟩
                subst hwk
                have hwk2:Below w2.heap.size w2 wk:=bl_tr (bl_tr HO.out.2.2.2.2.2.2 (Below.alloc' wo (.cells #[.int .i64 0,.int .i64 (hS L2),.slice ac2 L2.length cc2,.slice aa2 A2.length ca2] 61))) hbk
                have hwkx:=bl_tr HO.out.2.2.2.1 hbk
                by_cases hlt3:k<L.length
                · have hk0:(0:Int)≤(k:Int):=Int.natCast_nonneg _
                  have hk1:(k:Int)<(L.length:Int):=by omega
                  have hk2:(k:Int)<(L2.length:Int):=by have:=HLL.out.2; omega
                  have Hw3:=Lib.hid (wrapS hlt3 (by omega))
                  obtain ⟨p,hp⟩:∃ p,L[k]? = some p:=⟨_,List.getElem?_eq_getElem hlt3⟩
                  obtain ⟨q,hq⟩:∃ q,L2[k]? = some q:=⟨_,List.getElem?_eq_getElem (by have:=HLL.out.2; omega)⟩
                  obtain ⟨gp,cap,ccp,rfl,hcp⟩:=HF.out.1.at_ hp
                  obtain ⟨gq,caq,ccq,rfl,hcq⟩:=HO.out.1.at_ hq
                  have hcpd:=hcp.mono (bl_tr hwk2 (below_drew wk))
                  have hcqd:=hcq.mono (bl_tr hwk2 (below_drew wk))
                  have hTd:=HO.out.2.2.2.2.1.mono (bl_tr hbk (below_drew wk))
                  have hUd:=HO.out.2.2.2.2.2.1.mono (bl_tr hbk (below_drew wk))
                  have HK:=Lib.hid (And.intro hp (And.intro hq (And.intro hPk (And.intro hbk (And.intro hcpd (And.intro hcqd (And.intro hTd (And.intro hUd hwk2))))))))
                  clear hp hq hPk hbk hcpd hcqd hTd hUd hwk2 hcp hcq hwkx
                  go_wp2_with fail
                  refine wp_region_still_tail 10 (by kernel_rfl) (by kernel_rfl) ?_
                  simp only [List.take_succ_cons,List.take_zero,List.drop_succ_cons,List.drop_zero]
                  change wpStill Tryz.prog _ wk.drew (fun a'=>wpList Tryz.prog _ _ _ a' wk.drew) _ _
                  have t2:=HK.out.2.2.2.2.2.2.1.b2
                  have u2:=HK.out.2.2.2.2.2.2.2.1.b2
                  obtain ⟨p0,p1,p2,p3,p4,p5,hrp⟩:=HK.out.2.2.2.2.1
                  obtain ⟨q0,q1,q2,q3,q4,q5,hrq⟩:=HK.out.2.2.2.2.2.1
                  have H28:=Lib.hid (c28 (x:=p) (y:=q) (c:=ccp) (d:=ccq) hrp hrq)
                  clear hrp hrq
                  repeat still_step
                  refine wpStill_nil ?_
                  go_wp2_with fail
                  go_at_call 28
                  refine H28.out.mono ?_
                  rintro e w4 ⟨t,rfl,htt,hb28⟩
                  have hb4:=bl_tr (bl_tr HK.out.2.2.2.1 (below_drew wk)) hb28
                  have hb5:=bl_tr HB2.out (bl_tr (bl_tr HK.out.2.2.2.2.2.2.2.2 (below_drew wk)) hb28)
                  have HE:=Lib.hid (And.intro htt (And.intro hb4 hb5))
                  clear htt hb28 hb4 hb5 p0 p1 p2 p3 p4 p5 q0 q1 q2 q3 q4 q5 t2 u2
                  cases t with
                  | false =>
                    go_wp2_with fail
                    refine bodyPost_ret (v:=.bool false) ?_ rfl ⟨false,rfl,(fun h=>nomatch h),HE.out.2.2⟩
                    simp [results,Tryz.results14,go_sem]
                  | true =>
                    go_wp2_with fail
                    first | rw [Hw3.out] | rw [show ((k:Int)+1)=((k+1:Nat):Int) from by omega]
                    refine ⟨⟨k+1,hlt3,rfl,HE.out.2.1,fun k' hk' => ?_⟩,measS hlt3⟩
                    by_cases hkk:k'=k
                    · subst hkk
                      rw [HK.out.1,HK.out.2.1,HE.out.1.1 (by first | trivial | rfl)]
                    · exact HK.out.2.2.1 k' (by omega)
                · have hk1 : ¬ (k:Int)<(L.length:Int):=by omega
                  have hkl:k=L.length:=by omega
                  have hLL:L=L2:=by
                    apply List.ext_getElem?
                    intro k'
                    by_cases hkk:k'<L.length
                    · exact hPk k' (by omega)
                    · rw [List.getElem?_eq_none_iff.2 (by omega),List.getElem?_eq_none_iff.2 (by have:=HLL.out.2; omega)]
                  have HEnd:=Lib.hid (And.intro hLL hwkx)
                  clear hLL hkl hPk hbk hwk2 hwkx hk
                  go_wp2_with fail
                  first | rw [Hw2.out] | rw [show ((o:Int)+1)=((o+1:Nat):Int) from by omega]
                  exact ⟨⟨o+1,hlt2,rfl,HEnd.out.2,HO.out.2.2.1.step HO.out.2.1 (fun _ _=>HEnd.out.1)⟩,measS hlt2⟩
            · have hb1:(hS L != hS L2)=false:=by rw [hh]; exact bne_self_eq_false _
              have hb2:((L.length:Int) != (L2.length:Int))=true:=by rw [bne_iff_ne]; omega
              have HLL:=Lib.hid hll
              clear hh hll
              go_wp2_with fail
              first | rw [Hw2.out] | rw [show ((o:Int)+1)=((o+1:Nat):Int) from by omega]
              exact ⟨⟨o+1,hlt2,rfl,HO.out.2.2.2.1,HO.out.2.2.1.step HO.out.2.1 (fun _ h=>absurd h HLL.out)⟩,measS hlt2⟩
          · have hb1:(hS L != hS L2)=true:=by rw [bne_iff_ne]; exact hh
            have HLL:=Lib.hid hh
            clear hh
            go_wp2_with fail
            first | rw [Hw2.out] | rw [show ((o:Int)+1)=((o+1:Nat):Int) from by omega]
            exact ⟨⟨o+1,hlt2,rfl,HO.out.2.2.2.1,HO.out.2.2.1.step HO.out.2.1 (fun h _=>absurd h HLL.out)⟩,measS hlt2⟩
        · have ho1 : ¬ (o:Int)<(i:Int):=by omega
          have hoi:o=i:=by omega
          subst hoi
          have hT:=HT.out.mono hbo
          have t3:=hT.b3
          have HO:=Lib.hid (And.intro hPo (And.intro hbo (And.intro hT hwo2)))
          have hAll:=hAl.2
          clear hPo hbo hT hwo2 ho
          go_wp2_with fail
          go_loopw [78] (RBl wo A.length (PA A)) (fun k _=>A.length - (intOf k).toNat)
          case atStart=>exact ⟨0,Nat.zero_le _,rfl,Below.refl _ _,fun _ _ h=>absurd h (Nat.not_lt_zero _)⟩
          case round =>
            clear t3
            obtain ⟨k,hk,rfl,hbk,hPk⟩:=hrel
            obtain ⟨wk,hwk⟩:∃ w',w'=wr:=⟨_,rfl⟩
            subst hwk
            have hwk2:=bl_tr HO.out.2.2.2 hbk
            by_cases hlt3:k<A.length
            · have hk0:(0:Int)≤(k:Int):=Int.natCast_nonneg _
              have hk1:(k:Int)<(A.length:Int):=by omega
              have hkc:(k:Int)≤(ca1:Int):=by omega
              have Hw3:=Lib.hid (wrapS hlt3 (by omega))
              obtain ⟨p,hp⟩:∃ p,A[k]? = some p:=⟨_,List.getElem?_eq_getElem hlt3⟩
              obtain ⟨gp,cap,ccp,rfl,hcp⟩:=HF.out.2.1.at_ hp
              have hcpd:=hcp.mono hwk2
              have hbC:=Below.alloc' wk (.cells #[.int .i64 (p.1:Int),.int .i64 (p.2:Int),.slice cap 3 ccp,.bool false,.bool false,.int .i64 (hN p)] 64)
              have t3:=(HO.out.2.2.1.mono (bl_tr hbk hbC)).b3
              have hbox:=CgAt.box wk (x:=p) (c:=ccp) hcpd.row
              obtain ⟨p0,p1,p2,p3,p4,p5,hrp⟩:=hcpd
              have HK:=Lib.hid (And.intro hp (And.intro hPk (And.intro (bl_tr hbk hbC) (And.intro (bl_tr hwk2 hbC) (And.intro hbox hrp)))))
              clear hp hPk hbk hwk2 hcp hbC hbox hrp
              go_wp2_with fail
              go_loopw [88] (RBl (wk.alloc (.cells #[.int .i64 (p.1:Int),.int .i64 (p.2:Int),.slice cap 3 ccp,.bool false,.bool false,.int .i64 (hN p)] 64)) k (PB A p)) (fun d _=>k - (intOf d).toNat)
              case atStart=>exact ⟨0,Nat.zero_le _,rfl,Below.refl _ _,fun _ _ h=>absurd h (Nat.not_lt_zero _)⟩
              case round =>
                clear p0 p1 p2 p3 p4 p5 t3
                obtain ⟨d,hd,rfl,hbd,hPd⟩:=hrel
                obtain ⟨wd,hwd⟩:∃ w',w'=wr:=⟨_,rfl⟩
                subst hwd
                have hwd2:=bl_tr HK.out.2.2.2.1 hbd
                by_cases hlt4:d<k
                · have hd0:(0:Int)≤(d:Int):=Int.natCast_nonneg _
                  have hd1:(d:Int)<(k:Int):=by omega
                  have Hw4:=Lib.hid (wrapS hlt4 (by omega))
                  obtain ⟨q,hq⟩:∃ q,A[d]? = some q:=⟨_,List.getElem?_eq_getElem (by omega)⟩
                  obtain ⟨gq,caq,ccq,e4,hcq⟩:=HF.out.2.1.at_ hq
                  injection e4 with e4
                  injection e4 with e4 _ _
                  subst e4
                  have hcqd:=hcq.mono hwd2
                  have hbD:=Below.alloc' wd (.cells #[.int .i64 (q.1:Int),.int .i64 (q.2:Int),.slice caq 3 ccq,.bool false,.bool false,.int .i64 (hN q)] 64)
                  have hbox2:=CgAt.box wd (x:=q) (c:=ccq) hcqd.row
                  have hbox1:=HK.out.2.2.2.2.1.mono (bl_tr hbd hbD)
                  obtain ⟨q0,q1,q2,q3,q4,q5,hrq⟩:=hcqd
                  obtain ⟨x0,x1,x2,x3,x4,x5,hr1⟩:=hbox1
                  obtain ⟨y0,y1,y2,y3,y4,y5,hr2⟩:=hbox2
                  have H28:=Lib.hid (c28 (x:=p) (y:=q) (c:=ccp) (d:=ccq) hr1 hr2)
                  have HD:=Lib.hid (And.intro hq (And.intro hPd (And.intro (bl_tr hbd hbD) (bl_tr hwd2 hbD))))
                  clear hq hPd hbd hwd2 hcq hbD hrq hr1 hr2
                  by_cases hh:hN p=hN q
                  · have hb1:(hN p == hN q)=true:=by rw [hh]; exact beq_self_eq_true _
                    clear hh
                    go_wp2_with fail
                    go_at_call 28
                    refine H28.out.mono ?_
                    rintro e w4 ⟨t,rfl,htt,hb28⟩
                    have HE:=Lib.hid (And.intro htt (And.intro (bl_tr HD.out.2.2.1 hb28) (bl_tr HB2.out (bl_tr HD.out.2.2.2 hb28))))
                    clear htt hb28 q0 q1 q2 q3 q4 q5 x0 x1 x2 x3 x4 x5 y0 y1 y2 y3 y4 y5
                    cases t with
                    | false =>
                      go_wp2_with fail
                      refine bodyPost_ret (v:=.bool false) ?_ rfl ⟨false,rfl,(fun h=>nomatch h),HE.out.2.2⟩
                      simp [results,Tryz.results14,go_sem]
                    | true =>
                      go_wp2_with fail
                      first | rw [Hw4.out] | rw [show ((d:Int)+1)=((d+1:Nat):Int) from by omega]
                      exact ⟨⟨d+1,hlt4,rfl,HE.out.2.1,HD.out.2.1.step HD.out.1 (fun _=>HE.out.1.1 (by first | trivial | rfl))⟩,measS hlt4⟩
                  · have hb1:(hN p == hN q)=false:=by rw [beq_eq_false_iff_ne]; exact hh
                    have HH:=Lib.hid hh
                    clear hh
                    go_wp2_with fail
                    first | rw [Hw4.out] | rw [show ((d:Int)+1)=((d+1:Nat):Int) from by omega]
                    exact ⟨⟨d+1,hlt4,rfl,HD.out.2.2.1,HD.out.2.1.step HD.out.1 (fun h=>absurd h HH.out)⟩,measS hlt4⟩
                · have hd1 : ¬ (d:Int)<(k:Int):=by omega
                  have hdk:d=k:=by omega
                  subst hdk
                  have HD:=Lib.hid (And.intro hPd (bl_tr HK.out.2.2.1 hbd))
                  clear hPd hbd hwd2 hd
                  go_wp2_with fail
                  first | rw [Hw3.out] | rw [show ((d:Int)+1)=((d+1:Nat):Int) from by omega]
                  exact ⟨⟨d+1,hlt3,rfl,HD.out.2,HK.out.2.1.step HK.out.1 HD.out.1⟩,measS hlt3⟩
            · have hk1 : ¬ (k:Int)<(A.length:Int):=by omega
              have hkl:k=A.length:=by omega
              subst hkl
              have HK:=Lib.hid (And.intro hPk hwk2)
              clear hPk hbk hwk2 hk
              go_wp2_with fail
              first | rw [Hw.out] | rw [show ((o:Int)+1)=((o+1:Nat):Int) from by omega]
              exact ⟨⟨o+1,hlt,rfl,HK.out.2,HF.out.2.2.2.1.step HF.out.2.2.1 HO.out.1 HK.out.1⟩,measS hlt⟩
    · have hi1 : ¬ (i:Int)<(X.length:Int):=by omega
      have hil:i=X.length:=by omega
      subst hil
      have HP:=Lib.hid (And.intro hP hbi)
      clear hP hbi hi
      go_wp2_with fail
      refine bodyPost_ret (v:=.bool true) ?_ rfl ⟨true,rfl,fun _=>HP.out.1,bl_tr HB2.out HP.out.2⟩
      simp [results,Tryz.results14,go_sem]
end Go.Proofs.YtbcngfgemjdllaaGreatDoor
