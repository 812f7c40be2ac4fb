/- Part 36: Z13. -/
import Derived.Test.YtbcngfgemjdllaaGreatDoorB35
set_option linter.unusedVariables false
set_option linter.unusedSimpArgs false
namespace Go.Proofs.YtbcngfgemjdllaaGreatDoor
open Go.RowKit Go.Own
variable {B:Nat} {w0 w:World} {r:List HP}
def R87 (Z:ZC) (B:Nat) (w0:World) (A:AtC) (L:List LS) (E:List Lx.Ed) (xs rest:List Int) (sa:Option Addr) (sc:Nat) (r:List HP) (i:Value) (wr:World):Prop :=
  ∃ (k pos:Nat) (L':List LS) (ts:List TP),k≤E.length∧i=.int .i64 (k:Int)∧xs.drop pos=(E.drop k).flatMap edI++rest∧EdU L L' (E.take k) ts∧St B w0 (zwL Z pos A sa sc L'++(stars (ts.map tpP)::r)) wr
structure EOk (L:List LS) (d:Lx.Ed):Prop where
  src:∃ x,L[d.src]? = some x
  to:∃ x,L[d.to]? = some x
  kind:d.kind=1∨d.kind=2∨d.kind=5
  a:0≤d.a1∧d.a1<1000000∧0≤d.a2∧d.a2<1000000
theorem rowS {L:List LS} {sa:Option Addr} {c n:Nat} {i:Nat} {x:LS} {l:List HP} (H:St B w0 (Osl (.slice sa n c) 169 1 n (L.map ifL)::l) w) (hx:L[i]? = some x):∃ g,sa=some ⟨g,0,none⟩∧w.cell? ⟨g,i,none⟩=some (.iface (ty x.q.k) (.pointer (some ⟨x.b,0,none⟩))):=by
  have hl:i<L.length:=(List.getElem?_eq_some_iff.1 hx).1
  obtain ⟨gs,hgs,hcs⟩:=(RowAt.of H) (by intro h; have:=congrArg List.length h; rw [List.length_map] at this; simp at this; rw [this] at hl; simp at hl)
  exact ⟨gs,hgs,hcs i _ (by rw [List.getElem?_map,hx]; rfl)⟩
def PSj (L:List LS) (j i:Nat):Prop:=∃ m x,m<j∧L[m]? = some x∧BOk x.q.k∧x.ar=i
def PLj (L:List LS) (ts:List TP) (j i:Nat):Prop:=∃ y ∈ ts,y.d.src<j∧y.d.to=i∧∃ x t,L[y.d.src]? = some x∧L[i]? = some t∧((x.q.k=11∧t.q.k=4)∨(x.q.k=9∧t.q.k=10))
structure BlOk (L:List LS):Prop where
  en:∀ (i:Nat) (x:LS),L[i]? = some x→BOk x.q.k→∃ e,L[x.ar]? = some e∧e.q.k=8∧x.q.en=.pointer (some ⟨e.b,0,none⟩)
  one:∀ (i i':Nat) (x x':LS),L[i]? = some x→L[i']? = some x'→BOk x.q.k→BOk x'.q.k→x.ar=x'.ar→i=i'
  nil:∀ x ∈ L,x.q.k=8→x.q.st=.nilIface
def R87c (Z:ZC) (B:Nat) (w0:World) (A:AtC) (L L':List LS) (ts:List TP) (pos:Nat) (sa:Option Addr) (sc:Nat) (r:List HP) (i:Value) (wr:World):Prop :=
  ∃ (j:Nat) (M:List LS),j≤L.length∧i=.int .i64 (j:Int)∧XU L' M (PSj L j) (PLj L ts j)∧St B w0 (zwL Z pos A sa sc M++(stars (ts.map tpP)::r)) wr
def RIn (Z:ZC) (B:Nat) (w0:World) (A:AtC) (L L':List LS) (ts:List TP) (pos:Nat) (sa:Option Addr) (sc j kt:Nat) (r:List HP) (v:Value) (wr:World):Prop :=
  ∃ (i:Nat) (M:List LS),i≤(outT ts j).length∧v=.int .i64 (i:Int)∧XU L' M (PSj L j) (fun m=>PLj L ts j m∨∃ y t,y ∈ (outT ts j).take i∧y.d.to=m∧L[m]? = some t∧t.q.k=kt)∧St B w0 (zwL Z pos A sa sc M++(stars (ts.map tpP)::r)) wr
def RW (W:World) (n:Nat) (i:Value) (w:World):Prop:=∃ j:Nat,j≤n∧i=.int .i64 (j:Int)∧w=W
set_option maxRecDepth 100000 in
set_option maxHeartbeats 8000000 in
theorem c87 {Z : ZC} {A : AtC} {xs rest : List Int} {pos : Nat} {L : List LS} {E : List Lx.Ed} {sa : Option Addr} {sc : Nat} (hR : RdZ Z B w0 xs) (hx : xs.drop pos = (E.length : Int) :: (E.flatMap edI ++ rest)) (hN : E.length < 1000000) (hL : L.length < 1000000)
    (h0:∀ x ∈ L,x.q.eo=false∧x.q.tl=[]) (hE:∀ d ∈ E,EOk L d) (hk:∀ t ∈ L,KOk t.q.k) (hbl:BlOk L) (H:St B w0 (zwL Z pos A sa sc L++r) w) :
    Calls Tryz.prog 87 #[.pointer (some ⟨Z.bd,0,none⟩),.pointer (some ⟨Z.at_,0,none⟩),.slice none 0 0] w fun e w'=>e=.returned (.tuple #[])∧∃ (L':List LS) (ts:List TP),EdU L L' E ts∧∃ M:List LS,XU L' M (PSj L L.length) (PLj L ts L.length)∧∃ pos':Nat,xs.drop pos'=rest∧St B w0 (zwL Z pos' A sa sc M++(stars (ts.map tpP)::r)) w':=by
  have HR:=Lib.hid hR
  obtain ⟨_,hx2⟩:=rd_head hx
  have HX:=Lib.hid hx2
  have HS:=Lib.hid (And.intro h0 (And.intro hE hk))
  have HB:=Lib.hid hbl
  have H1:=Lib.hid (hR.c117 hx H)
  clear hR hx H hx2 h0 hE hk hbl
  go_enter Tryz.func87,Tryz.ntmps87
  go_wp2_with fail
  go_at_call 117
  refine H1.out.mono ?_
  rintro e w1 ⟨rfl,h1⟩
  have HH:=Lib.hid h1
  clear H1 h1
  go_wp2_with fail
  go_loopw [7] (R87 Z B w0 A L E xs rest sa sc r) (fun i _=>E.length - (intOf i).toNat)
  case atStart =>
    have X:=HH.out.nilStars
    exact ⟨0,pos+1,L,[],Nat.zero_le _,rfl,by rw [List.drop_zero]; exact HX.out,by rw [List.take_zero]; exact EdU.start HS.out.1,((((X.pick 4).pick 4).pick 4).pick 4)⟩
  case round =>
    clear HH
    obtain ⟨k,pos1,L',ts,hk,rfl,hd,hU,H1⟩:=hrel
    by_cases hlt:k<E.length
    · have hk0:(0:Int)≤(k:Int):=Int.natCast_nonneg _
      have hk1:(k:Int)<(E.length:Int):=by omega
      have Hw:=Lib.hid (wrapS hlt (by omega))
      rw [List.drop_eq_getElem_cons hlt,List.flatMap_cons] at hd
      have htk:E.take k++[E[k]]=E.take (k+1):=by rw [List.take_add_one,List.getElem?_eq_getElem hlt]; rfl
      have hok:=HS.out.2.1 _ (List.getElem_mem hlt)
      generalize E[k]=d at hd hok htk
      obtain ⟨⟨x,hsx⟩,⟨t,ht⟩,hkd,hab⟩:=hok
      have hd1:xs.drop pos1=(d.src:Int)::(d.to:Int)::d.kind::d.a1::d.a2::0::((E.drop (k+1)).flatMap edI++rest):=hd
      obtain ⟨_,hd2⟩:=rd_head hd1
      obtain ⟨_,hd3⟩:=rd_head hd2
      obtain ⟨_,hd4⟩:=rd_head hd3
      obtain ⟨_,hd5⟩:=rd_head hd4
      obtain ⟨_,hd6⟩:=rd_head hd5
      obtain ⟨_,hd7⟩:=rd_head hd6
      have Hd:=Lib.hid (And.intro hd1 (And.intro hd2 (And.intro hd3 (And.intro hd4 (And.intro hd5 (And.intro hd6 hd7))))))
      have HU:=Lib.hid hU
      have Hx:=Lib.hid (And.intro hsx (And.intro ht (And.intro hkd (And.intro hab htk))))
      have Hc:=Lib.hid (HR.out.c117 hd1 H1)
      clear hd hd1 hd2 hd3 hd4 hd5 hd6 hd7 H1 hU hsx ht hkd hab htk
      go_wp2_with fail
      go_at_call 117
      refine Hc.out.mono ?_
      rintro e w2 ⟨rfl,h⟩
      have Hc2:=Lib.hid (HR.out.c117 Hd.out.2.1 h)
      clear h Hc
      go_wp2_with fail
      go_at_call 117
      refine Hc2.out.mono ?_
      rintro e w3 ⟨rfl,h⟩
      have Hc3:=Lib.hid (HR.out.c117 Hd.out.2.2.1 h)
      clear h Hc2
      go_wp2_with fail
      go_at_call 117
      refine Hc3.out.mono ?_
      rintro e w4 ⟨rfl,h⟩
      have Hc4:=Lib.hid (HR.out.c117 Hd.out.2.2.2.1 h)
      clear h Hc3
      go_wp2_with fail
      go_at_call 117
      refine Hc4.out.mono ?_
      rintro e w5 ⟨rfl,h⟩
      have Hc5:=Lib.hid (HR.out.c117 Hd.out.2.2.2.2.1 h)
      clear h Hc4
      go_wp2_with fail
      go_at_call 117
      refine Hc5.out.mono ?_
      rintro e w6 ⟨rfl,h⟩
      have Hc6:=Lib.hid (HR.out.c117 Hd.out.2.2.2.2.2.1 h)
      clear h Hc5
      go_wp2_with fail
      go_at_call 117
      refine Hc6.out.mono ?_
      rintro e w7 ⟨rfl,h⟩
      obtain ⟨ta2,tc2,ht'⟩:=HU.out.at_ d.to t Hx.out.2.1
      have Hc7:=Lib.hid (c125 (src:=(d.src:Int)) (L:=L') ht' Hx.out.2.2.1 Hx.out.2.2.2.1 h)
      clear h Hc6 ht'
      go_wp2_with fail
      go_at_call 125
      refine Hc7.out.mono ?_
      rintro e w8 ⟨tk,tb,cs,rfl,hT,h8⟩
      rw [HU.out.zw] at h8
      obtain ⟨gs,hgs,hrow⟩:=rowS (h8.pick 3) Hx.out.1
      subst hgs
      have q9:w8.cell? ⟨Z.at_,9,none⟩=some (.slice (some ⟨gs,0,none⟩) L.length sc):=(h8.pick 2).cells.1 9
      have hb0:(0:Int)≤(d.src:Int):=Int.natCast_nonneg _
      have hb1:(d.src:Int)<(L.length:Int):=by have:=(List.getElem?_eq_some_iff.1 Hx.out.1).1; omega
      have hmt:=m_st_AddTransition (HS.out.2.2 x (List.mem_of_getElem? Hx.out.1)) x.b
      obtain ⟨ta,tc,hy⟩:=HU.out.at_ d.src x Hx.out.1
      have K1:=(show St B w0 (star (pts x.b (sT x.q.k) ((trS (Lx.epsOnly (Lx.outL (E.take k) d.src)) ta tc ((outT ts d.src).map tpV) x).q.cells (bP Z.at_) (x.i:Int))) (Osl (.slice ta ((outT ts d.src).map tpV).length tc) 266 1 ((outT ts d.src).map tpV).length ((outT ts d.src).map tpV))::_) w8 from (h8.pick 4).takeMap (f:=sqL Z.at_) hy).split
      have hol:(outT ts d.src).length≤E.length:=by
        rw [outT_len HU.out]
        unfold Lx.outL
        rw [List.length_map]
        exact Nat.le_trans (List.length_filter_le _ _) (by rw [List.length_take]; omega)
      have K2:=c128 (tk:=tk) (n:=((outT ts d.src).map tpV).length) (te:=tk == 1) hT.ok (by rw [List.length_map]; omega) rfl rfl hT.c1 (((K1.pick 3).pick 2).pick 2)
      have HK2:=Lib.hid K2
      have Hy:=Lib.hid hy
      have HT:=Lib.hid (show TrM d (ifL t) tk cs from hT)
      clear K1 K2 hy hT h8 Hc7 hol
      go_wp2_with (first
        | (go_at_call 128; refine HK2.out.mono ?_; rintro e w9 ⟨rfl,a',c',h9⟩
           have H9:=Lib.hid h9
           clear h9))
      first | rw [Hw.out] | rw [show ((k:Int)+1)=((k+1:Nat):Int) from by omega]
      have H10:=H9.out
      rw [cells_trS (v:=tpV ⟨d,tk,tb,cs⟩)] at H10
      have hlen:((outT ts d.src).map tpV++[tpV ⟨d,tk,tb,cs⟩]).length=((outT ts d.src).map tpV).length+1:=by simp
      rw [← hlen] at H10
      have hU2:=HU.out.step (tb:=tb) (ta':=a') (tc':=c') (a:=0) (c:=0) Hx.out.1 Hx.out.2.1 HT.out Hy.out
      rw [Hx.out.2.2.2.2] at hU2
      have heo:eoA ((outT ts d.src).map tpV).length (Lx.epsOnly (Lx.outL (E.take k) d.src)) (tk == 1)=eoA (outT ts d.src).length (Lx.epsOnly (Lx.outL (E.take k) d.src)) (tk == 1):=by rw [List.length_map]
      have H11:St B w0 (sqL Z.at_ (trS (eoA ((outT ts d.src).map tpV).length (Lx.epsOnly (Lx.outL (E.take k) d.src)) (tk == 1)) a' c' ((outT ts d.src).map tpV++[tpV ⟨d,tk,tb,cs⟩]) x)::pts tb (trT tk) cs::stars ((L'.map (sqL Z.at_)).eraseIdx d.src)::pts Z.bd 251 (dzC Z.bo Z.da Z.dn Z.dc (pos1+1+1+1+1+1+1))::pts Z.at_ 114 (A.cells (.slice (some ⟨gs,0,none⟩) L.length sc))::Osl (.slice (some ⟨gs,0,none⟩) L.length sc) 169 1 L.length (L.map ifL)::stars (ts.map tpP)::r) w9:=St.join H10
      rw [heo] at H11
      have K3:=St.putMap (f:=sqL Z.at_) (L:=L') (i:=d.src) ((H11.pick 2).pick 1) (List.getElem?_eq_some_iff.1 Hy.out).1
      have K4:=St.pushMap (f:=tpP) (L:=ts) (a:=⟨d,tk,tb,cs⟩) ((K3.pick 5).pick 2)
      have K5:=(((K4.pick 1).pick 4).pick 4).pick 4
      exact ⟨⟨k+1,_,_,_,hlt,rfl,Hd.out.2.2.2.2.2.2,hU2,by rw [hU2.zw]; exact K5⟩,measS hlt⟩
    · have hk1 : ¬ (k : Int) < (E.length : Int) := by omega
      have hkl:k=E.length:=by omega
      subst hkl
      rw [List.take_length] at hU
      rw [List.drop_length,List.flatMap_nil,List.nil_append] at hd
      have HU:=Lib.hid hU
      have Hd:=Lib.hid hd
      rw [hU.zw] at H1
      have q9:wr.cell? ⟨Z.at_,9,none⟩=some (.slice sa L.length sc):=(H1.pick 1).cells.1 9
      have HH:=Lib.hid H1
      clear hU hd H1
      go_wp2_with fail
      obtain ⟨W,hW⟩:∃ W,W=wr:=⟨_,rfl⟩
      go_loopw [84] (RW W L.length) (fun i _=>L.length - (intOf i).toNat)
      case atStart=>exact ⟨0,Nat.zero_le _,rfl,hW.symm⟩
      case round =>
        obtain ⟨j,hj,rfl,rfl⟩:=hrel
        subst hW
        by_cases hlt:j<L.length
        · obtain ⟨x,hx⟩:∃ x,L[j]? = some x:=⟨_,List.getElem?_eq_getElem hlt⟩
          have hk0:(0:Int)≤(j:Int):=Int.natCast_nonneg _
          have hk1:(j:Int)<(L.length:Int):=by omega
          have Hw:=Lib.hid (wrapS hlt (by omega))
          obtain ⟨gs,hgs,hrow⟩:=rowS (HH.out.pick 2) hx
          subst hgs
          obtain ⟨ta,tc,hy⟩:=HU.out.at_ j x hx
          have hmt:=m_st_GetTransitions (HS.out.2.2 x (List.mem_of_getElem? hx)) x.b
          have c6:wr.cell? ⟨x.b,6,none⟩=some (.slice ta ((outT ts j).map tpV).length tc):=St.stCell (x:=trS (Lx.epsOnly (Lx.outL E j)) ta tc ((outT ts j).map tpV) x) (HH.out.pick 3) hy rfl
          have hK:=((show St B w0 (star (pts x.b (sT x.q.k) ((trS (Lx.epsOnly (Lx.outL E j)) ta tc ((outT ts j).map tpV) x).q.cells (bP Z.at_) (x.i:Int))) (Osl (.slice ta ((outT ts j).map tpV).length tc) 266 1 ((outT ts j).map tpV).length ((outT ts j).map tpV))::_) wr from (HH.out.pick 3).takeMap (f:=sqL Z.at_) hy).split.pick 1)
          have HK:=Lib.hid (RowAt.of hK)
          have hol:(outT ts j).length≤E.length:=by
            rw [outT_len HU.out]
            unfold Lx.outL
            rw [List.length_map]
            exact List.length_filter_le _ _
          rw [List.length_map] at c6
          have HX2:=Lib.hid (And.intro hx hy)
          clear hK hx hy
          go_wp2_with (first
            | (go_at_call 129; refine (c129 _ _ _ c6).mono ?_; rintro e w2 ⟨rfl,rfl⟩))
          go_loopw [91] (RW wr (outT ts j).length) (fun i _=>(outT ts j).length - (intOf i).toNat)
          case atStart=>exact ⟨0,Nat.zero_le _,rfl,rfl⟩
          case round =>
            obtain ⟨i,hi,rfl,rfl⟩:=hrel
            by_cases hlt2:i<(outT ts j).length
            · have hm0:(0:Int)≤(i:Int):=Int.natCast_nonneg _
              have hm1:(i:Int)<((outT ts j).length:Int):=by omega
              have Hw2:=Lib.hid (wrapS hlt2 (by omega))
              obtain ⟨y,hy⟩:∃ y,(outT ts j)[i]? = some y:=⟨_,List.getElem?_eq_getElem hlt2⟩
              obtain ⟨_,_,hT⟩:=HU.out.ok y (List.mem_filter.1 (List.mem_of_getElem? hy)).1
              obtain ⟨gt,hgt,hct⟩:=HK.out (by intro h; have:=congrArg List.length h; rw [List.length_map] at this; simp at this; rw [this] at hlt2; simp at hlt2)
              subst hgt
              have qt:wr.cell? ⟨gt,i,none⟩=some (.iface (tyT y.tk) (.pointer (some ⟨y.tb,0,none⟩))):=hct i _ (by rw [List.getElem?_map,hy]; rfl)
              have hta:=as_rt hT.ok
              clear hT hct hy
              go_wp2_with fail
              first | rw [Hw2.out] | rw [show ((i:Int)+1)=((i+1:Nat):Int) from by omega]
              exact ⟨⟨i+1,hlt2,rfl,rfl⟩,measS hlt2⟩
            · have hm1 : ¬ (i:Int)<((outT ts j).length:Int):=by omega
              go_wp2_with fail
              first | rw [Hw.out] | rw [show ((j:Int)+1)=((j+1:Nat):Int) from by omega]
              exact ⟨⟨j+1,hlt,rfl,rfl⟩,measS hlt⟩
        · have hk1 : ¬ (j : Int) < (L.length : Int) := by omega
          clear hj
          go_wp2_with fail
          go_loopw [155] (R87c Z B w0 A L L' ts pos1 sa sc r) (fun i _=>L.length - (intOf i).toNat)
          case atStart=>exact ⟨0,L',Nat.zero_le _,rfl,XU.start.congr (fun i=>⟨False.elim,fun ⟨_,_,h,_⟩=>absurd h (Nat.not_lt_zero _)⟩) (fun i=>⟨False.elim,fun ⟨_,_,h,_⟩=>absurd h (Nat.not_lt_zero _)⟩),by rw [HU.out.zw]; exact HH.out⟩
          case round =>
            clear HH q9
            obtain ⟨j,M,hj,rfl,hX,H1⟩:=hrel
            rw [hX.zw,HU.out.map,HU.out.len] at H1
            by_cases hlt:j<L.length
            · obtain ⟨x, hx⟩ : ∃ x, L[j]? = some x := ⟨_, List.getElem?_eq_getElem hlt⟩
              have hk0:(0:Int)≤(j:Int):=Int.natCast_nonneg _
              have hk1:(j:Int)<(L.length:Int):=by omega
              have Hw:=Lib.hid (wrapS hlt (by omega))
              have hKO:=HS.out.2.2 x (List.mem_of_getElem? hx)
              obtain ⟨gs,hgs,hrow⟩:=rowS (H1.pick 2) hx
              subst hgs
              obtain ⟨ta,tc,hy⟩:=HU.out.at_ j x hx
              obtain ⟨st,lb,hz,hz1,hz2,hz3,hz4⟩:=hX.at_ j _ hy
              have HX2:=Lib.hid (And.intro hX (And.intro hx (And.intro hy hz)))
              have HH:=Lib.hid H1
              clear hX hx hy hz H1 hz1 hz2 hz3 hz4
              by_cases hB:BOk x.q.k
              · obtain ⟨e,he,he8,hen⟩:=HB.out.en j x HX2.out.2.1 hB
                have ha1:=as_blk_hit hB
                have ha2:=as_11m hKO (by rcases hB.is with h | h | h <;> omega)
                have ha3:=as_9m hKO (by rcases hB.is with h | h | h <;> omega)
                have hme:=m_bl_getEndState hB x.b
                have c9:wr.cell? ⟨x.b,9,none⟩=some (.pointer (some ⟨e.b,0,none⟩)):=by
                  rw [← hen]
                  exact St.stCell (x:=xS st lb (trS (Lx.epsOnly (Lx.outL E j)) ta tc ((outT ts j).map tpV) x)) (HH.out.pick 3) HX2.out.2.2.2 (cells9_B (q:=(xS st lb (trS (Lx.epsOnly (Lx.outL E j)) ta tc ((outT ts j).map tpV) x)).q) hB)
                obtain ⟨tae,tce,hey⟩:=HU.out.at_ x.ar e he
                obtain ⟨ste,lbe,hez,_,hez2,_,_⟩:=HX2.out.1.at_ x.ar _ hey
                have hps : ¬ PSj L j x.ar:=fun ⟨m,y,h1,h2,h3,h4⟩=>by
                  have:=HB.out.one m j y x h2 HX2.out.2.1 h3 hB h4
                  omega
                have hste:ste=.nilIface:=by rw [hez2 hps]; exact HB.out.nil e (List.mem_of_getElem? he) he8
                subst hste
                have K1:=(show St B w0 (star (pts e.b (sT e.q.k) ((xS .nilIface lbe (trS (Lx.epsOnly (Lx.outL E x.ar)) tae tce ((outT ts x.ar).map tpV) e)).q.cells (bP Z.at_) (e.i:Int))) (Osl (.slice tae ((outT ts x.ar).map tpV).length tce) 266 1 ((outT ts x.ar).map tpV).length ((outT ts x.ar).map tpV))::_) wr from (HH.out.pick 3).takeMap (f:=sqL Z.at_) hez).split
                have c7:wr.cell? ⟨e.b,7,none⟩=some .nilIface:=by rw [K1.cells.1 7,cells7_8 (q:=(xS .nilIface lbe (trS (Lx.epsOnly (Lx.outL E x.ar)) tae tce ((outT ts x.ar).map tpV) e)).q) he8]; rfl
                have c7f:=K1.cells.2 7
                have K2:=K1.setCell (off:=7) (.iface (ty x.q.k) (.pointer (some ⟨x.b,0,none⟩)))
                rw [set7_8 (q:=(xS .nilIface lbe (trS (Lx.epsOnly (Lx.outL E x.ar)) tae tce ((outT ts x.ar).map tpV) e)).q) he8] at K2
                have K3:=St.putMap (f:=sqL Z.at_) (L:=M) (i:=x.ar) (a:=stS (.iface (ty x.q.k) (.pointer (some ⟨x.b,0,none⟩))) (xS .nilIface lbe (trS (Lx.epsOnly (Lx.outL E x.ar)) tae tce ((outT ts x.ar).map tpV) e))) K2.join (List.getElem?_eq_some_iff.1 hez).1
                have hX2:XU L' (M.set x.ar (stS (.iface (ty x.q.k) (.pointer (some ⟨x.b,0,none⟩))) (xS .nilIface lbe (trS (Lx.epsOnly (Lx.outL E x.ar)) tae tce ((outT ts x.ar).map tpV) e)))) (PSj L (j+1)) (PLj L ts (j+1)):=(HX2.out.1.stSet (T:=ty x.q.k) (p:=some ⟨x.b,0,none⟩) hez).congr (fun i=>⟨by
                    rintro (⟨m,y,h1,h2,h3,h4⟩ | h)
                    · exact ⟨m,y,by omega,h2,h3,h4⟩
                    · exact ⟨j,x,by omega,HX2.out.2.1,hB,h.symm⟩,fun ⟨m,y,h1,h2,h3,h4⟩=>by
                    rcases Nat.lt_succ_iff_lt_or_eq.1 h1 with h | h
                    · exact Or.inl ⟨m,y,h,h2,h3,h4⟩
                    · subst h; rw [HX2.out.2.1] at h2; cases h2; exact Or.inr h4.symm⟩) (fun i=>⟨fun ⟨y,h1,h2,h3,h4⟩=>⟨y,h1,by omega,h3,h4⟩,fun ⟨y,h1,h2,h3,z,t,h4,h5,h6⟩=>⟨y,h1,by
                    rcases Nat.lt_succ_iff_lt_or_eq.1 h2 with h | h
                    · exact h
                    · rw [h,HX2.out.2.1] at h4; cases h4
                      have hbi:=hB.is
                      omega,h3,z,t,h4,h5,h6⟩⟩)
                have HF:=Lib.hid (And.intro hX2 (((K3.pick 3).pick 3).pick 3))
                clear K1 K2 K3 hX2 hps he he8 hen hey hez hez2 hB hKO
                go_wp2_with (first
                  | (go_at_call 326; refine (c326 _ _ _ c9).mono ?_; rintro e' w2 ⟨rfl,rfl⟩))
                first | rw [Hw.out] | rw [show ((j:Int)+1)=((j+1:Nat):Int) from by omega]
                exact ⟨⟨j+1,_,hlt,rfl,HF.out.1,by rw [HF.out.1.zw,HU.out.map,HU.out.len]; exact HF.out.2⟩,measS hlt⟩
              · by_cases h11 : x.q.k = 11
                · have hKx := h11
                  have ha1:=as_blk_miss (k:=x.q.k) ⟨hKO,fun h=>hB ⟨Or.inl h⟩,fun h=>hB ⟨Or.inr (Or.inl h)⟩,fun h=>hB ⟨Or.inr (Or.inr h)⟩⟩
                  have ha2:=as_11h h11
                  clear h11
                  have c6:wr.cell? ⟨x.b,6,none⟩=some (.slice ta ((outT ts j).map tpV).length tc):=St.stCell (x:=xS st lb (trS (Lx.epsOnly (Lx.outL E j)) ta tc ((outT ts j).map tpV) x)) (HH.out.pick 3) HX2.out.2.2.2 rfl
                  rw [List.length_map] at c6
                  have hol:(outT ts j).length≤E.length:=by
                    rw [outT_len HU.out]
                    unfold Lx.outL
                    rw [List.length_map]
                    exact List.length_filter_le _ _
                  have Hk:=Lib.hid hKx
                  clear hKx hB
                  go_wp2_with (first
                    | (go_at_call 129; refine (c129 _ _ _ c6).mono ?_; rintro e w2 ⟨rfl,rfl⟩))
                  go_loopw [193] (RIn Z B w0 A L L' ts pos1 (some ⟨gs,0,none⟩) sc j 4 r) (fun i _=>(outT ts j).length - (intOf i).toNat)
                  case atStart=>exact ⟨0,M,Nat.zero_le _,rfl,HX2.out.1.congr (fun _=>Iff.rfl) (fun m=>⟨Or.inl,fun h=>by
                    rcases h with h | ⟨y,t,h1,_⟩
                    · exact h
                    · simp at h1⟩),by rw [HX2.out.1.zw,HU.out.map,HU.out.len]; exact HH.out⟩
                  case round =>
                    obtain ⟨i,M',hi,rfl,hX',H2⟩:=hrel
                    rw [hX'.zw,HU.out.map,HU.out.len] at H2
                    by_cases hlt2:i<(outT ts j).length
                    · have hm0:(0:Int)≤(i:Int):=Int.natCast_nonneg _
                      have hm1:(i:Int)<((outT ts j).length:Int):=by omega
                      have Hw2:=Lib.hid (wrapS hlt2 (by omega))
                      obtain ⟨y,hy⟩:∃ y,(outT ts j)[i]? = some y:=⟨_,List.getElem?_eq_getElem hlt2⟩
                      have hyts:=(List.mem_filter.1 (List.mem_of_getElem? hy)).1
                      have hsrc:y.d.src=j:=by simpa using (List.mem_filter.1 (List.mem_of_getElem? hy)).2
                      obtain ⟨t,ht,hT⟩:=HU.out.ok y hyts
                      obtain ⟨st2,lb2,hz2,_⟩:=hX'.at_ j _ HX2.out.2.2.1
                      obtain ⟨gt,hgt,hct⟩:=(RowAt.of ((show St B w0 (star (pts x.b (sT x.q.k) ((xS st2 lb2 (trS (Lx.epsOnly (Lx.outL E j)) ta tc ((outT ts j).map tpV) x)).q.cells (bP Z.at_) (x.i:Int))) (Osl (.slice ta ((outT ts j).map tpV).length tc) 266 1 ((outT ts j).map tpV).length ((outT ts j).map tpV))::_) wr from (H2.pick 3).takeMap (f:=sqL Z.at_) hz2).split.pick 1)) (by intro h; have:=congrArg List.length h; rw [List.length_map] at this; simp at this; rw [this] at hlt2; simp at hlt2)
                      subst hgt
                      have qt:wr.cell? ⟨gt,i,none⟩=some (.iface (tyT y.tk) (.pointer (some ⟨y.tb,0,none⟩))):=hct i _ (by rw [List.getElem?_map,hy]; rfl)
                      have q0:wr.cell? ⟨y.tb,0,none⟩=some (.iface (ty t.q.k) (.pointer (some ⟨t.b,0,none⟩))):=St.tpCell (H2.pick 4) hyts hT.c0
                      have hmg:=m_tr_getTarget hT.ok y.tb
                      have htk:(outT ts j).take i++[y]=(outT ts j).take (i+1):=by rw [List.take_add_one,hy]; rfl
                      have hKt:=HS.out.2.2 t (List.mem_of_getElem? ht)
                      by_cases hkt:t.q.k=4
                      · have hat:=as_4h hkt
                        obtain ⟨tae,tce,hey⟩:=HU.out.at_ y.d.to t ht
                        obtain ⟨ste,lbe,hez,_⟩:=hX'.at_ y.d.to _ hey
                        have K1:=(show St B w0 (star (pts t.b (sT t.q.k) ((xS ste lbe (trS (Lx.epsOnly (Lx.outL E y.d.to)) tae tce ((outT ts y.d.to).map tpV) t)).q.cells (bP Z.at_) (t.i:Int))) (Osl (.slice tae ((outT ts y.d.to).map tpV).length tce) 266 1 ((outT ts y.d.to).map tpV).length ((outT ts y.d.to).map tpV))::_) wr from (H2.pick 3).takeMap (f:=sqL Z.at_) hez).split
                        have c7:wr.cell? ⟨t.b,10,none⟩=some lbe:=by rw [K1.cells.1 10,cells10_4 (q:=(xS ste lbe (trS (Lx.epsOnly (Lx.outL E y.d.to)) tae tce ((outT ts y.d.to).map tpV) t)).q) hkt]; rfl
                        have c7f:=K1.cells.2 10
                        have K2:=K1.setCell (off:=10) (.iface (ty x.q.k) (.pointer (some ⟨x.b,0,none⟩)))
                        rw [set10_4 (q:=(xS ste lbe (trS (Lx.epsOnly (Lx.outL E y.d.to)) tae tce ((outT ts y.d.to).map tpV) t)).q) hkt] at K2
                        have K3:=St.putMap (f:=sqL Z.at_) (L:=M') (i:=y.d.to) (a:=lbT (.iface (ty x.q.k) (.pointer (some ⟨x.b,0,none⟩))) (xS ste lbe (trS (Lx.epsOnly (Lx.outL E y.d.to)) tae tce ((outT ts y.d.to).map tpV) t))) K2.join (List.getElem?_eq_some_iff.1 hez).1
                        have hX3:=(hX'.lbSet (T:=ty x.q.k) (p:=some ⟨x.b,0,none⟩) hez).congr (PS':=PSj L j) (PL':=fun m=>PLj L ts j m∨∃ y t,y ∈ (outT ts j).take (i+1)∧y.d.to=m∧L[m]? = some t∧t.q.k=4) (fun _=>Iff.rfl) (fun m=>⟨by
                          rintro ((h | ⟨y',t',h1,h2,h3,h4⟩) | h)
                          · exact Or.inl h
                          · exact Or.inr ⟨y',t',by rw [← htk]; exact List.mem_append_left _ h1,h2,h3,h4⟩
                          · exact Or.inr ⟨y,t,by rw [← htk]; simp,h.symm,by rw [h]; exact ht,hkt⟩,by
                          rintro (h | ⟨y',t',h1,h2,h3,h4⟩)
                          · exact Or.inl (Or.inl h)
                          · rw [← htk] at h1
                            rcases List.mem_append.1 h1 with h1 | h1
                            · exact Or.inl (Or.inr ⟨y',t',h1,h2,h3,h4⟩)
                            · rw [List.mem_singleton.1 h1] at h2; exact Or.inr h2.symm⟩)
                        have HF:=Lib.hid (And.intro hX3 (((K3.pick 3).pick 3).pick 3))
                        clear K1 K2 K3 hX3 hkt hX' H2 hct hy hyts hT hey hez hz2 ht htk hKt hsrc
                        go_wp2_with (first
                          | (go_at_call 126; refine (c126 _ _ _ q0).mono ?_; rintro e w2 ⟨rfl,rfl⟩))
                        first | rw [Hw2.out] | rw [show ((i:Int)+1)=((i+1:Nat):Int) from by omega]
                        exact ⟨⟨i+1,_,hlt2,rfl,HF.out.1,by rw [HF.out.1.zw,HU.out.map,HU.out.len]; exact HF.out.2⟩,measS hlt2⟩
                      · have hat:=as_4m hKt hkt
                        have hX3:=hX'.congr (PS':=PSj L j) (PL':=fun m=>PLj L ts j m∨∃ y t,y ∈ (outT ts j).take (i+1)∧y.d.to=m∧L[m]? = some t∧t.q.k=4) (fun _=>Iff.rfl) (fun m=>⟨by
                          rintro (h | ⟨y',t',h1,h2,h3,h4⟩)
                          · exact Or.inl h
                          · exact Or.inr ⟨y',t',by rw [← htk]; exact List.mem_append_left _ h1,h2,h3,h4⟩,by
                          rintro (h | ⟨y',t',h1,h2,h3,h4⟩)
                          · exact Or.inl h
                          · rw [← htk] at h1
                            rcases List.mem_append.1 h1 with h1 | h1
                            · exact Or.inr ⟨y',t',h1,h2,h3,h4⟩
                            · rw [List.mem_singleton.1 h1] at h2; rw [← h2,ht] at h3; cases h3; exact absurd h4 hkt⟩)
                        have HF:=Lib.hid (And.intro hX3 H2)
                        clear hX3 hkt hX' H2 hct hy hyts hT hz2 ht htk hKt hsrc
                        go_wp2_with (first
                          | (go_at_call 126; refine (c126 _ _ _ q0).mono ?_; rintro e w2 ⟨rfl,rfl⟩))
                        first | rw [Hw2.out] | rw [show ((i:Int)+1)=((i+1:Nat):Int) from by omega]
                        exact ⟨⟨i+1,_,hlt2,rfl,HF.out.1,by rw [HF.out.1.zw,HU.out.map,HU.out.len]; exact HF.out.2⟩,measS hlt2⟩
                    · have hm1 : ¬ (i:Int)<((outT ts j).length:Int):=by omega
                      have hil:i=(outT ts j).length:=by omega
                      subst hil
                      rw [List.take_length] at hX'
                      have hX3:=hX'.congr (PS':=PSj L (j+1)) (PL':=PLj L ts (j+1)) (fun i=>⟨fun ⟨m,y,h1,h2,h3,h4⟩=>⟨m,y,by omega,h2,h3,h4⟩,fun ⟨m,y,h1,h2,h3,h4⟩=>⟨m,y,by
                          rcases Nat.lt_succ_iff_lt_or_eq.1 h1 with h | h
                          · exact h
                          · subst h; rw [HX2.out.2.1] at h2; cases h2
                            have hbi:=h3.is
                            have hkk:=Hk.out
                            omega,h2,h3,h4⟩⟩) (fun m=>⟨by
                          rintro (⟨y,h1,h2,h3⟩ | ⟨y,t,h1,h2,h3,h4⟩)
                          · exact ⟨y,h1,by omega,h3⟩
                          · have hsrc:y.d.src=j:=by simpa using (List.mem_filter.1 h1).2
                            exact ⟨y,(List.mem_filter.1 h1).1,by omega,h2,x,t,by rw [hsrc]; exact HX2.out.2.1,h3,Or.inl ⟨Hk.out,h4⟩⟩,fun ⟨y,h1,h2,h3,z,t,h4,h5,h6⟩=>by
                          rcases Nat.lt_succ_iff_lt_or_eq.1 h2 with h | h
                          · exact Or.inl ⟨y,h1,h,h3,z,t,h4,h5,h6⟩
                          · rw [h,HX2.out.2.1] at h4; cases h4
                            have hkk:=Hk.out
                            exact Or.inr ⟨y,t,List.mem_filter.2 ⟨h1,by simp [h]⟩,h3,h5,by omega⟩⟩)
                      have HF:=Lib.hid (And.intro hX3 H2)
                      clear hX3 hX' H2
                      go_wp2_with fail
                      first | rw [Hw.out] | rw [show ((j:Int)+1)=((j+1:Nat):Int) from by omega]
                      exact ⟨⟨j+1,_,hlt,rfl,HF.out.1,by rw [HF.out.1.zw,HU.out.map,HU.out.len]; exact HF.out.2⟩,measS hlt⟩
                · by_cases h9 : x.q.k = 9
                  · have hKx := h9
                    have ha1:=as_blk_miss (k:=x.q.k) ⟨hKO,fun h=>hB ⟨Or.inl h⟩,fun h=>hB ⟨Or.inr (Or.inl h)⟩,fun h=>hB ⟨Or.inr (Or.inr h)⟩⟩
                    have ha2:=as_11m hKO h11
                    have ha3:=as_9h h9
                    clear h9 h11
                    have c6:wr.cell? ⟨x.b,6,none⟩=some (.slice ta ((outT ts j).map tpV).length tc):=St.stCell (x:=xS st lb (trS (Lx.epsOnly (Lx.outL E j)) ta tc ((outT ts j).map tpV) x)) (HH.out.pick 3) HX2.out.2.2.2 rfl
                    rw [List.length_map] at c6
                    have hol:(outT ts j).length≤E.length:=by
                      rw [outT_len HU.out]
                      unfold Lx.outL
                      rw [List.length_map]
                      exact List.length_filter_le _ _
                    have Hk:=Lib.hid hKx
                    clear hKx hB
                    go_wp2_with (first
                      | (go_at_call 129; refine (c129 _ _ _ c6).mono ?_; rintro e w2 ⟨rfl,rfl⟩))
                    go_loopw [220] (RIn Z B w0 A L L' ts pos1 (some ⟨gs,0,none⟩) sc j 10 r) (fun i _=>(outT ts j).length - (intOf i).toNat)
                    case atStart=>exact ⟨0,M,Nat.zero_le _,rfl,HX2.out.1.congr (fun _=>Iff.rfl) (fun m=>⟨Or.inl,fun h=>by
                      rcases h with h | ⟨y,t,h1,_⟩
                      · exact h
                      · simp at h1⟩),by rw [HX2.out.1.zw,HU.out.map,HU.out.len]; exact HH.out⟩
                    case round =>
                      obtain ⟨i,M',hi,rfl,hX',H2⟩:=hrel
                      rw [hX'.zw,HU.out.map,HU.out.len] at H2
                      by_cases hlt2:i<(outT ts j).length
                      · have hm0:(0:Int)≤(i:Int):=Int.natCast_nonneg _
                        have hm1:(i:Int)<((outT ts j).length:Int):=by omega
                        have Hw2:=Lib.hid (wrapS hlt2 (by omega))
                        obtain ⟨y,hy⟩:∃ y,(outT ts j)[i]? = some y:=⟨_,List.getElem?_eq_getElem hlt2⟩
                        have hyts:=(List.mem_filter.1 (List.mem_of_getElem? hy)).1
                        have hsrc:y.d.src=j:=by simpa using (List.mem_filter.1 (List.mem_of_getElem? hy)).2
                        obtain ⟨t,ht,hT⟩:=HU.out.ok y hyts
                        obtain ⟨st2,lb2,hz2,_⟩:=hX'.at_ j _ HX2.out.2.2.1
                        obtain ⟨gt,hgt,hct⟩:=(RowAt.of ((show St B w0 (star (pts x.b (sT x.q.k) ((xS st2 lb2 (trS (Lx.epsOnly (Lx.outL E j)) ta tc ((outT ts j).map tpV) x)).q.cells (bP Z.at_) (x.i:Int))) (Osl (.slice ta ((outT ts j).map tpV).length tc) 266 1 ((outT ts j).map tpV).length ((outT ts j).map tpV))::_) wr from (H2.pick 3).takeMap (f:=sqL Z.at_) hz2).split.pick 1)) (by intro h; have:=congrArg List.length h; rw [List.length_map] at this; simp at this; rw [this] at hlt2; simp at hlt2)
                        subst hgt
                        have qt:wr.cell? ⟨gt,i,none⟩=some (.iface (tyT y.tk) (.pointer (some ⟨y.tb,0,none⟩))):=hct i _ (by rw [List.getElem?_map,hy]; rfl)
                        have q0:wr.cell? ⟨y.tb,0,none⟩=some (.iface (ty t.q.k) (.pointer (some ⟨t.b,0,none⟩))):=St.tpCell (H2.pick 4) hyts hT.c0
                        have hmg:=m_tr_getTarget hT.ok y.tb
                        have htk:(outT ts j).take i++[y]=(outT ts j).take (i+1):=by rw [List.take_add_one,hy]; rfl
                        have hKt:=HS.out.2.2 t (List.mem_of_getElem? ht)
                        by_cases hkt:t.q.k=10
                        · have hat:=as_10h hkt
                          obtain ⟨tae,tce,hey⟩:=HU.out.at_ y.d.to t ht
                          obtain ⟨ste,lbe,hez,_⟩:=hX'.at_ y.d.to _ hey
                          have K1:=(show St B w0 (star (pts t.b (sT t.q.k) ((xS ste lbe (trS (Lx.epsOnly (Lx.outL E y.d.to)) tae tce ((outT ts y.d.to).map tpV) t)).q.cells (bP Z.at_) (t.i:Int))) (Osl (.slice tae ((outT ts y.d.to).map tpV).length tce) 266 1 ((outT ts y.d.to).map tpV).length ((outT ts y.d.to).map tpV))::_) wr from (H2.pick 3).takeMap (f:=sqL Z.at_) hez).split
                          have c7:wr.cell? ⟨t.b,9,none⟩=some lbe:=by rw [K1.cells.1 9,cells9_10 (q:=(xS ste lbe (trS (Lx.epsOnly (Lx.outL E y.d.to)) tae tce ((outT ts y.d.to).map tpV) t)).q) hkt]; rfl
                          have c7f:=K1.cells.2 9
                          have K2:=K1.setCell (off:=9) (.iface (ty x.q.k) (.pointer (some ⟨x.b,0,none⟩)))
                          rw [set9_10 (q:=(xS ste lbe (trS (Lx.epsOnly (Lx.outL E y.d.to)) tae tce ((outT ts y.d.to).map tpV) t)).q) hkt] at K2
                          have K3:=St.putMap (f:=sqL Z.at_) (L:=M') (i:=y.d.to) (a:=lbT (.iface (ty x.q.k) (.pointer (some ⟨x.b,0,none⟩))) (xS ste lbe (trS (Lx.epsOnly (Lx.outL E y.d.to)) tae tce ((outT ts y.d.to).map tpV) t))) K2.join (List.getElem?_eq_some_iff.1 hez).1
                          have hX3:=(hX'.lbSet (T:=ty x.q.k) (p:=some ⟨x.b,0,none⟩) hez).congr (PS':=PSj L j) (PL':=fun m=>PLj L ts j m∨∃ y t,y ∈ (outT ts j).take (i+1)∧y.d.to=m∧L[m]? = some t∧t.q.k=10) (fun _=>Iff.rfl) (fun m=>⟨by
                            rintro ((h | ⟨y',t',h1,h2,h3,h4⟩) | h)
                            · exact Or.inl h
                            · exact Or.inr ⟨y',t',by rw [← htk]; exact List.mem_append_left _ h1,h2,h3,h4⟩
                            · exact Or.inr ⟨y,t,by rw [← htk]; simp,h.symm,by rw [h]; exact ht,hkt⟩,by
                            rintro (h | ⟨y',t',h1,h2,h3,h4⟩)
                            · exact Or.inl (Or.inl h)
                            · rw [← htk] at h1
                              rcases List.mem_append.1 h1 with h1 | h1
                              · exact Or.inl (Or.inr ⟨y',t',h1,h2,h3,h4⟩)
                              · rw [List.mem_singleton.1 h1] at h2; exact Or.inr h2.symm⟩)
                          have HF:=Lib.hid (And.intro hX3 (((K3.pick 3).pick 3).pick 3))
                          clear K1 K2 K3 hX3 hkt hX' H2 hct hy hyts hT hey hez hz2 ht htk hKt hsrc
                          go_wp2_with (first
                            | (go_at_call 126; refine (c126 _ _ _ q0).mono ?_; rintro e w2 ⟨rfl,rfl⟩))
                          first | rw [Hw2.out] | rw [show ((i:Int)+1)=((i+1:Nat):Int) from by omega]
                          exact ⟨⟨i+1,_,hlt2,rfl,HF.out.1,by rw [HF.out.1.zw,HU.out.map,HU.out.len]; exact HF.out.2⟩,measS hlt2⟩
                        · have hat:=as_10m hKt hkt
                          have hX3:=hX'.congr (PS':=PSj L j) (PL':=fun m=>PLj L ts j m∨∃ y t,y ∈ (outT ts j).take (i+1)∧y.d.to=m∧L[m]? = some t∧t.q.k=10) (fun _=>Iff.rfl) (fun m=>⟨by
                            rintro (h | ⟨y',t',h1,h2,h3,h4⟩)
                            · exact Or.inl h
                            · exact Or.inr ⟨y',t',by rw [← htk]; exact List.mem_append_left _ h1,h2,h3,h4⟩,by
                            rintro (h | ⟨y',t',h1,h2,h3,h4⟩)
                            · exact Or.inl h
                            · rw [← htk] at h1
                              rcases List.mem_append.1 h1 with h1 | h1
                              · exact Or.inr ⟨y',t',h1,h2,h3,h4⟩
                              · rw [List.mem_singleton.1 h1] at h2; rw [← h2,ht] at h3; cases h3; exact absurd h4 hkt⟩)
                          have HF:=Lib.hid (And.intro hX3 H2)
                          clear hX3 hkt hX' H2 hct hy hyts hT hz2 ht htk hKt hsrc
                          go_wp2_with (first
                            | (go_at_call 126; refine (c126 _ _ _ q0).mono ?_; rintro e w2 ⟨rfl,rfl⟩))
                          first | rw [Hw2.out] | rw [show ((i:Int)+1)=((i+1:Nat):Int) from by omega]
                          exact ⟨⟨i+1,_,hlt2,rfl,HF.out.1,by rw [HF.out.1.zw,HU.out.map,HU.out.len]; exact HF.out.2⟩,measS hlt2⟩
                      · have hm1 : ¬ (i:Int)<((outT ts j).length:Int):=by omega
                        have hil:i=(outT ts j).length:=by omega
                        subst hil
                        rw [List.take_length] at hX'
                        have hX3:=hX'.congr (PS':=PSj L (j+1)) (PL':=PLj L ts (j+1)) (fun i=>⟨fun ⟨m,y,h1,h2,h3,h4⟩=>⟨m,y,by omega,h2,h3,h4⟩,fun ⟨m,y,h1,h2,h3,h4⟩=>⟨m,y,by
                            rcases Nat.lt_succ_iff_lt_or_eq.1 h1 with h | h
                            · exact h
                            · subst h; rw [HX2.out.2.1] at h2; cases h2
                              have hbi:=h3.is
                              have hkk:=Hk.out
                              omega,h2,h3,h4⟩⟩) (fun m=>⟨by
                            rintro (⟨y,h1,h2,h3⟩ | ⟨y,t,h1,h2,h3,h4⟩)
                            · exact ⟨y,h1,by omega,h3⟩
                            · have hsrc:y.d.src=j:=by simpa using (List.mem_filter.1 h1).2
                              exact ⟨y,(List.mem_filter.1 h1).1,by omega,h2,x,t,by rw [hsrc]; exact HX2.out.2.1,h3,Or.inr ⟨Hk.out,h4⟩⟩,fun ⟨y,h1,h2,h3,z,t,h4,h5,h6⟩=>by
                            rcases Nat.lt_succ_iff_lt_or_eq.1 h2 with h | h
                            · exact Or.inl ⟨y,h1,h,h3,z,t,h4,h5,h6⟩
                            · rw [h,HX2.out.2.1] at h4; cases h4
                              have hkk:=Hk.out
                              exact Or.inr ⟨y,t,List.mem_filter.2 ⟨h1,by simp [h]⟩,h3,h5,by omega⟩⟩)
                        have HF:=Lib.hid (And.intro hX3 H2)
                        clear hX3 hX' H2
                        go_wp2_with fail
                        first | rw [Hw.out] | rw [show ((j:Int)+1)=((j+1:Nat):Int) from by omega]
                        exact ⟨⟨j+1,_,hlt,rfl,HF.out.1,by rw [HF.out.1.zw,HU.out.map,HU.out.len]; exact HF.out.2⟩,measS hlt⟩
                  · have ha1:=as_blk_miss (k:=x.q.k) ⟨hKO,fun h=>hB ⟨Or.inl h⟩,fun h=>hB ⟨Or.inr (Or.inl h)⟩,fun h=>hB ⟨Or.inr (Or.inr h)⟩⟩
                    have ha2:=as_11m hKO h11
                    have ha3:=as_9m hKO h9
                    have Hn:=Lib.hid (And.intro hB (And.intro h11 h9))
                    clear hB h11 h9 hKO
                    go_wp2_with fail
                    first | rw [Hw.out] | rw [show ((j:Int)+1)=((j+1:Nat):Int) from by omega]
                    have hX2:XU L' M (PSj L (j+1)) (PLj L ts (j+1)):=HX2.out.1.congr (fun i=>⟨fun ⟨m,y,h1,h2,h3,h4⟩=>⟨m,y,by omega,h2,h3,h4⟩,fun ⟨m,y,h1,h2,h3,h4⟩=>⟨m,y,by
                      rcases Nat.lt_succ_iff_lt_or_eq.1 h1 with h | h
                      · exact h
                      · subst h; rw [HX2.out.2.1] at h2; cases h2; exact absurd h3 Hn.out.1,h2,h3,h4⟩⟩) (fun i=>⟨fun ⟨y,h1,h2,h3,h4⟩=>⟨y,h1,by omega,h3,h4⟩,fun ⟨y,h1,h2,h3,z,t,h4,h5,h6⟩=>⟨y,h1,by
                      rcases Nat.lt_succ_iff_lt_or_eq.1 h2 with h | h
                      · exact h
                      · rw [h,HX2.out.2.1] at h4; cases h4
                        rcases h6 with ⟨h6,_⟩ | ⟨h6,_⟩
                        · exact absurd h6 Hn.out.2.1
                        · exact absurd h6 Hn.out.2.2,h3,z,t,h4,h5,h6⟩⟩)
                    exact ⟨⟨j+1,M,hlt,rfl,hX2,by rw [hX2.zw,HU.out.map,HU.out.len]; exact HH.out⟩,measS hlt⟩
            · have hk1 : ¬ (j:Int)<(L.length:Int):=by omega
              have hkl:j=L.length:=by omega
              subst hkl
              have HH:=Lib.hid (And.intro hX H1)
              clear hX H1
              go_wp2_with fail
              go_end0
              exact ⟨rfl,L',ts,HU.out,M,HH.out.1,pos1,Hd.out,by rw [HH.out.1.zw,HU.out.map,HU.out.len]; exact HH.out.2⟩
end Go.Proofs.YtbcngfgemjdllaaGreatDoor
