/- Part 38: Z19. -/
import Derived.Test.YtbcngfgemjdllaaGreatDoorB04
import Derived.Test.YtbcngfgemjdllaaGreatDoorB37
set_option linter.unusedVariables false
set_option linter.unusedSimpArgs false
namespace Go.Proofs.YtbcngfgemjdllaaGreatDoor
open Go.RowKit Go.Own
variable {B:Nat} {w0 w:World} {r:List HP}
theorem as_kh {k:Nat} {t e:TypeId} (h:ty k=t) (he:Tryz.prog.underlying t=some (.pointer e)) (p:Value) (w:World):(Instr.typeAssert (.iface (ty k) p) 169 t true).run Tryz.prog w=.ok (.tuple #[p,.bool true]) w:=by subst h; exact run_assert_hit he
theorem as_km {k:Nat} {t e:TypeId} (h:ty k≠t) (he:Tryz.prog.underlying t=some (.pointer e)) (hz:(Tryz.prog.info? t).bind (·.zero)=some (.pointer none)) (p:Value) (w:World):(Instr.typeAssert (.iface (ty k) p) 169 t true).run Tryz.prog w=.ok (.tuple #[.pointer none,.bool false]) w:=run_assert_miss he hz h
theorem vs_row {a:Nat} {M:List LS} {ts:List TP} {j:Nat} {x:LS} (H:St B w0 (stars (M.map (sqL a))::r) w) (hx:M[j]? = some x) (htl:x.q.tl=(outT ts j).map tpV):RowAt w x.q.ta ((outT ts j).map tpV):=by
  have hK:=((show St B w0 (star (pts x.b (sT x.q.k) (x.q.cells (bP a) (x.i:Int))) (Osl (.slice x.q.ta x.q.tl.length x.q.tc) 266 1 x.q.tl.length x.q.tl)::_) w from H.takeMap (f:=sqL a) hx).split.pick 1)
  have:=RowAt.of hK
  rwa [htl] at this
theorem vs_y {ta:Option Addr} {ts:List TP} {j i:Nat} {y:TP} (h:RowAt w ta ((outT ts j).map tpV)) (hy:(outT ts j)[i]? = some y):∃ g,ta=some ⟨g,0,none⟩∧∀ i y,(outT ts j)[i]? = some y→w.cell? ⟨g,i,none⟩=some (.iface (tyT y.tk) (.pointer (some ⟨y.tb,0,none⟩))):=by
  obtain ⟨g,e,hc⟩:=h (by intro e; rw [List.map_eq_nil_iff] at e; rw [e] at hy; simp at hy)
  exact ⟨g,e,fun i y hy=>hc i _ (by rw [List.getElem?_map,hy]; rfl)⟩
theorem c295 (b:Nat) (v:Value) (w:World) (hc:w.cell? ⟨b,7,none⟩=some v):Calls Tryz.prog 295 #[.pointer (some ⟨b,0,none⟩)] w fun e w'=>e=.returned v∧w=w':=by
  go_enter Tryz.func295,Tryz.ntmps295
  go_wp2
  go_ret
  exact ⟨rfl,rfl⟩
theorem outT_mem {ts:List TP} {j:Nat} {y:TP} (h:y ∈ outT ts j):y ∈ ts:=(List.mem_filter.1 h).1
theorem cells8_10 {q:Sq} {a:Value} {n:Int} (h:q.k=10):(q.cells a n)[8]? = some (.bool false):=by
  unfold Sq.cells Sq.ex
  rw [h]; rfl
set_option maxRecDepth 100000 in
set_option maxHeartbeats 40000000 in
theorem c91 {Z : ZC} {A : AtC} {pos : Nat} {M : List LS} {ts : List TP} {sa : Option Addr} {sc : Nat} (hL : M.length < 1000000) (hV : ∀ (j : Nat) (x : LS), M[j]? = some x → VSt M ts j x)
    (H:St B w0 (zwL Z pos A sa sc M++(stars (ts.map tpP)::pts Z.bo 283 [.bool false,.bool true,.bool false]::r)) w) :
    Calls Tryz.prog 91 #[.pointer (some ⟨Z.bd,0,none⟩),.pointer (some ⟨Z.at_,0,none⟩)] w fun e w'=>e=.returned (.tuple #[])∧w=w':=by
  have q0:w.cell? ⟨Z.bd,0,none⟩=some (.pointer (some ⟨Z.bo,0,none⟩)):=H.cells.1 0
  have qo:w.cell? ⟨Z.bo,1,none⟩=some (.bool true):=(H.pick 5).cells.1 1
  have q9:w.cell? ⟨Z.at_,9,none⟩=some (.slice sa M.length sc):=(H.pick 1).cells.1 9
  have HH:=Lib.hid (And.intro H hV)
  clear H hV
  go_enter Tryz.func91,Tryz.ntmps91
  go_wp2_with (first
    | (go_at_call 131; refine (c131 _ _ _ qo).mono ?_; rintro e w2 ⟨rfl,rfl⟩))
  go_loopw [34] (RW w M.length) (fun i _=>M.length - (intOf i).toNat)
  case atStart=>exact ⟨0,Nat.zero_le _,rfl,rfl⟩
  case round =>
    obtain ⟨j,hj,rfl,rfl⟩:=hrel
    by_cases hlt:j<M.length
    · obtain ⟨x,hx⟩:∃ x,M[j]? = some x:=⟨_,List.getElem?_eq_getElem hlt⟩
      have hv:=HH.out.2 j x hx
      have hk0:(0:Int)≤(j:Int):=Int.natCast_nonneg _
      have hk1:(j:Int)<(M.length:Int):=by omega
      have Hw:=Lib.hid (wrapS hlt (by omega))
      obtain ⟨gs,hgs,hrow⟩:=rowS (HH.out.1.pick 2) hx
      subst hgs
      have c2:wr.cell? ⟨x.b,2,none⟩=some (.bool x.q.eo):=St.stCell (HH.out.1.pick 3) hx rfl
      have c6:wr.cell? ⟨x.b,6,none⟩=some (.slice x.q.ta x.q.tl.length x.q.tc):=St.stCell (HH.out.1.pick 3) hx rfl
      rw [hv.tl,List.length_map] at c6
      have m1:=m_st_GetEpsilonOnlyTransitions hv.ok x.b
      have m2:=m_st_GetTransitions hv.ok x.b
      have hfew:=hv.few
      have hkk:x.q.k=4∨x.q.k=10∨x.q.k=9∨x.q.k=12∨x.q.k=2∨(x.q.k=3∨x.q.k=5)∨x.q.k=8∨(x.q.k=6∨x.q.k=11)∨x.q.k=1∨x.q.k=7:=by have:=hv.ok.cases; omega
      have hl:0≤((outT ts j).length:Int):=Int.natCast_nonneg _
      by_cases h17:x.q.k=1∨x.q.k=7
      · have hfl:((outT ts j).length:Int)≤1:=by have:=hv.one h17; omega
        clear hkk hfew
        cases heo:x.q.eo with
        | true =>
          rw [heo] at c2
          clear heo
          rcases h17 with hk | hk
          · as_aux_lemma =>
              have a326:=as_km (k:=x.q.k) (t:=326) (e:=331) (by rw [hk]; decide) (by kernel_rfl) (by kernel_rfl)
              have a160:=as_km (k:=x.q.k) (t:=160) (e:=171) (by rw [hk]; decide) (by kernel_rfl) (by kernel_rfl)
              have a332:=as_km (k:=x.q.k) (t:=332) (e:=334) (by rw [hk]; decide) (by kernel_rfl) (by kernel_rfl)
              have a290:=as_km (k:=x.q.k) (t:=290) (e:=299) (by rw [hk]; decide) (by kernel_rfl) (by kernel_rfl)
              have a305:=as_km (k:=x.q.k) (t:=305) (e:=304) (by rw [hk]; decide) (by kernel_rfl) (by kernel_rfl)
              have a294:=as_blk_miss (k:=x.q.k) ⟨hv.ok,by omega,by omega,by omega⟩
              have a301:=as_km (k:=x.q.k) (t:=301) (e:=321) (by rw [hk]; decide) (by kernel_rfl) (by kernel_rfl)
              have a116:=fun w=>as_dec_miss (k:=x.q.k) ⟨by omega⟩ x.b w
              have a271:=as_km (k:=x.q.k) (t:=271) (e:=307) (by rw [hk]; decide) (by kernel_rfl) (by kernel_rfl)
              have hq1:=hfl
              clear hk hv hx
              go_wp2_with (first
                | (go_at_call 132; refine c132.mono ?_; rintro e w2 ⟨rfl,rfl⟩)
                | (go_at_call 284; refine (c284 _ _ _ c2).mono ?_; rintro e w2 ⟨rfl,rfl⟩)
                | (go_at_call 129; refine (c129 _ _ _ c6).mono ?_; rintro e w2 ⟨rfl,rfl⟩))
              first | rw [Hw.out] | rw [show ((j:Int)+1)=((j+1:Nat):Int) from by omega]
              exact ⟨⟨j+1,hlt,rfl,rfl⟩,measS hlt⟩
          · as_aux_lemma =>
              have a326:=as_km (k:=x.q.k) (t:=326) (e:=331) (by rw [hk]; decide) (by kernel_rfl) (by kernel_rfl)
              have a160:=as_km (k:=x.q.k) (t:=160) (e:=171) (by rw [hk]; decide) (by kernel_rfl) (by kernel_rfl)
              have a332:=as_km (k:=x.q.k) (t:=332) (e:=334) (by rw [hk]; decide) (by kernel_rfl) (by kernel_rfl)
              have a290:=as_km (k:=x.q.k) (t:=290) (e:=299) (by rw [hk]; decide) (by kernel_rfl) (by kernel_rfl)
              have a305:=as_km (k:=x.q.k) (t:=305) (e:=304) (by rw [hk]; decide) (by kernel_rfl) (by kernel_rfl)
              have a294:=as_blk_miss (k:=x.q.k) ⟨hv.ok,by omega,by omega,by omega⟩
              have a301:=as_km (k:=x.q.k) (t:=301) (e:=321) (by rw [hk]; decide) (by kernel_rfl) (by kernel_rfl)
              have a116:=fun w=>as_dec_miss (k:=x.q.k) ⟨by omega⟩ x.b w
              have a271:=as_kh (k:=x.q.k) (t:=271) (e:=307) (by rw [hk]; rfl) (by kernel_rfl)
              have hq1:=hfl
              clear hk hv hx
              go_wp2_with (first
                | (go_at_call 132; refine c132.mono ?_; rintro e w2 ⟨rfl,rfl⟩)
                | (go_at_call 284; refine (c284 _ _ _ c2).mono ?_; rintro e w2 ⟨rfl,rfl⟩)
                | (go_at_call 129; refine (c129 _ _ _ c6).mono ?_; rintro e w2 ⟨rfl,rfl⟩))
              first | rw [Hw.out] | rw [show ((j:Int)+1)=((j+1:Nat):Int) from by omega]
              exact ⟨⟨j+1,hlt,rfl,rfl⟩,measS hlt⟩
        | false =>
          rw [heo] at c2
          clear heo
          rcases h17 with hk | hk
          · as_aux_lemma =>
              have a326:=as_km (k:=x.q.k) (t:=326) (e:=331) (by rw [hk]; decide) (by kernel_rfl) (by kernel_rfl)
              have a160:=as_km (k:=x.q.k) (t:=160) (e:=171) (by rw [hk]; decide) (by kernel_rfl) (by kernel_rfl)
              have a332:=as_km (k:=x.q.k) (t:=332) (e:=334) (by rw [hk]; decide) (by kernel_rfl) (by kernel_rfl)
              have a290:=as_km (k:=x.q.k) (t:=290) (e:=299) (by rw [hk]; decide) (by kernel_rfl) (by kernel_rfl)
              have a305:=as_km (k:=x.q.k) (t:=305) (e:=304) (by rw [hk]; decide) (by kernel_rfl) (by kernel_rfl)
              have a294:=as_blk_miss (k:=x.q.k) ⟨hv.ok,by omega,by omega,by omega⟩
              have a301:=as_km (k:=x.q.k) (t:=301) (e:=321) (by rw [hk]; decide) (by kernel_rfl) (by kernel_rfl)
              have a116:=fun w=>as_dec_miss (k:=x.q.k) ⟨by omega⟩ x.b w
              have a271:=as_km (k:=x.q.k) (t:=271) (e:=307) (by rw [hk]; decide) (by kernel_rfl) (by kernel_rfl)
              have hq1:=hfl
              clear hk hv hx
              go_wp2_with (first
                | (go_at_call 132; refine c132.mono ?_; rintro e w2 ⟨rfl,rfl⟩)
                | (go_at_call 284; refine (c284 _ _ _ c2).mono ?_; rintro e w2 ⟨rfl,rfl⟩)
                | (go_at_call 129; refine (c129 _ _ _ c6).mono ?_; rintro e w2 ⟨rfl,rfl⟩))
              first | rw [Hw.out] | rw [show ((j:Int)+1)=((j+1:Nat):Int) from by omega]
              exact ⟨⟨j+1,hlt,rfl,rfl⟩,measS hlt⟩
          · as_aux_lemma =>
              have a326:=as_km (k:=x.q.k) (t:=326) (e:=331) (by rw [hk]; decide) (by kernel_rfl) (by kernel_rfl)
              have a160:=as_km (k:=x.q.k) (t:=160) (e:=171) (by rw [hk]; decide) (by kernel_rfl) (by kernel_rfl)
              have a332:=as_km (k:=x.q.k) (t:=332) (e:=334) (by rw [hk]; decide) (by kernel_rfl) (by kernel_rfl)
              have a290:=as_km (k:=x.q.k) (t:=290) (e:=299) (by rw [hk]; decide) (by kernel_rfl) (by kernel_rfl)
              have a305:=as_km (k:=x.q.k) (t:=305) (e:=304) (by rw [hk]; decide) (by kernel_rfl) (by kernel_rfl)
              have a294:=as_blk_miss (k:=x.q.k) ⟨hv.ok,by omega,by omega,by omega⟩
              have a301:=as_km (k:=x.q.k) (t:=301) (e:=321) (by rw [hk]; decide) (by kernel_rfl) (by kernel_rfl)
              have a116:=fun w=>as_dec_miss (k:=x.q.k) ⟨by omega⟩ x.b w
              have a271:=as_kh (k:=x.q.k) (t:=271) (e:=307) (by rw [hk]; rfl) (by kernel_rfl)
              have hq1:=hfl
              clear hk hv hx
              go_wp2_with (first
                | (go_at_call 132; refine c132.mono ?_; rintro e w2 ⟨rfl,rfl⟩)
                | (go_at_call 284; refine (c284 _ _ _ c2).mono ?_; rintro e w2 ⟨rfl,rfl⟩)
                | (go_at_call 129; refine (c129 _ _ _ c6).mono ?_; rintro e w2 ⟨rfl,rfl⟩))
              first | rw [Hw.out] | rw [show ((j:Int)+1)=((j+1:Nat):Int) from by omega]
              exact ⟨⟨j+1,hlt,rfl,rfl⟩,measS hlt⟩
      · have hf : x.q.eo = true := by rcases hfew with h | h; (· exact h); exact absurd h h17
        rw [hf] at c2
        have hn1 : ¬ x.q.k=1:=fun e=>h17 (Or.inl e)
        have hn7 : ¬ x.q.k=7:=fun e=>h17 (Or.inr e)
        clear hf hfew h17
        rcases hkk with hk | hk | hk | hk | hk | hk | hk | hk | hk | hk
        · as_aux_lemma =>
            clear hn1 hn7
            have a326:=as_kh (k:=x.q.k) (t:=326) (e:=331) (by rw [hk]; rfl) (by kernel_rfl)
            obtain ⟨T1,p1,e1⟩:=hv.k4 hk
            have c10:wr.cell? ⟨x.b,10,none⟩=some (.iface T1 (.pointer p1)):=by rw [← e1]; exact St.stCell (HH.out.1.pick 3) hx (cells10_4 hk)
            clear hk hv hx e1
            go_wp2_with (first
              | (go_at_call 132; refine c132.mono ?_; rintro e w2 ⟨rfl,rfl⟩)
              | (go_at_call 284; refine (c284 _ _ _ c2).mono ?_; rintro e w2 ⟨rfl,rfl⟩)
              | (go_at_call 129; refine (c129 _ _ _ c6).mono ?_; rintro e w2 ⟨rfl,rfl⟩))
            first | rw [Hw.out] | rw [show ((j:Int)+1)=((j+1:Nat):Int) from by omega]
            exact ⟨⟨j+1,hlt,rfl,rfl⟩,measS hlt⟩
        · as_aux_lemma =>
            clear hn1 hn7
            have a326:=as_km (k:=x.q.k) (t:=326) (e:=331) (by rw [hk]; decide) (by kernel_rfl) (by kernel_rfl)
            have a160:=as_kh (k:=x.q.k) (t:=160) (e:=171) (by rw [hk]; rfl) (by kernel_rfl)
            obtain ⟨⟨T1,p1,e1⟩,y0,y1,t0,t1,hyy,ht0,hk0,ht1,hk1⟩:=hv.k10 hk
            have c9:wr.cell? ⟨x.b,9,none⟩=some (.iface T1 (.pointer p1)):=by rw [← e1]; exact St.stCell (HH.out.1.pick 3) hx (cells9_10 hk)
            have c8:wr.cell? ⟨x.b,8,none⟩=some (.bool false):=St.stCell (HH.out.1.pick 3) hx (cells8_10 hk)
            have hr:=vs_row (HH.out.1.pick 3) hx hv.tl
            obtain ⟨g,hg,hgc⟩:=vs_y hr (i:=0) (y:=y0) (by rw [hyy]; rfl)
            have g0:=hgc 0 y0 (by rw [hyy]; rfl)
            have g1:=hgc 1 y1 (by rw [hyy]; rfl)
            have hm0:y0 ∈ outT ts j:=by rw [hyy]; simp
            have hm1:y1 ∈ outT ts j:=by rw [hyy]; simp
            obtain ⟨hT0,s0,hs0,hc0⟩:=hv.tr y0 hm0
            obtain ⟨hT1,s1,hs1,hc1⟩:=hv.tr y1 hm1
            rw [ht0] at hs0; cases hs0
            rw [ht1] at hs1; cases hs1
            have z0:wr.cell? ⟨y0.tb,0,none⟩=some (.iface (ty t0.q.k) (.pointer (some ⟨t0.b,0,none⟩))):=St.tpCell (HH.out.1.pick 4) (outT_mem hm0) hc0
            have z1:wr.cell? ⟨y1.tb,0,none⟩=some (.iface (ty t1.q.k) (.pointer (some ⟨t1.b,0,none⟩))):=St.tpCell (HH.out.1.pick 4) (outT_mem hm1) hc1
            have n0:=m_tr_getTarget hT0 y0.tb
            have n1:=m_tr_getTarget hT1 y1.tb
            have b340:=as_kh (k:=t0.q.k) (t:=340) (e:=467) (by rw [hk0]; rfl) (by kernel_rfl)
            have b290:=as_kh (k:=t1.q.k) (t:=290) (e:=299) (by rw [hk1]; rfl) (by kernel_rfl)
            rw [hyy] at c6 hl
            rw [hg] at c6
            simp only [List.length_cons,List.length_nil] at c6 hl
            clear hk hv hx e1 hyy ht0 hk0 ht1 hk1 hr hg hgc hm0 hm1 hT0 hT1 hc0 hc1
            go_wp2_with (first
              | (go_at_call 132; refine c132.mono ?_; rintro e w2 ⟨rfl,rfl⟩)
              | (go_at_call 284; refine (c284 _ _ _ c2).mono ?_; rintro e w2 ⟨rfl,rfl⟩)
              | (go_at_call 129; refine (c129 _ _ _ c6).mono ?_; rintro e w2 ⟨rfl,rfl⟩)
              | (go_at_call 126; refine (c126 _ _ _ z0).mono ?_; rintro e w2 ⟨rfl,rfl⟩)
              | (go_at_call 126; refine (c126 _ _ _ z1).mono ?_; rintro e w2 ⟨rfl,rfl⟩))
            first | rw [Hw.out] | rw [show ((j:Int)+1)=((j+1:Nat):Int) from by omega]
            exact ⟨⟨j+1,hlt,rfl,rfl⟩,measS hlt⟩
        · as_aux_lemma =>
            clear hn1 hn7
            have a326:=as_km (k:=x.q.k) (t:=326) (e:=331) (by rw [hk]; decide) (by kernel_rfl) (by kernel_rfl)
            have a160:=as_km (k:=x.q.k) (t:=160) (e:=171) (by rw [hk]; decide) (by kernel_rfl) (by kernel_rfl)
            have a332:=as_kh (k:=x.q.k) (t:=332) (e:=334) (by rw [hk]; rfl) (by kernel_rfl)
            obtain ⟨y0,t0,hyy,ht0,hk0⟩:=hv.k9 hk
            have hr:=vs_row (HH.out.1.pick 3) hx hv.tl
            obtain ⟨g,hg,hgc⟩:=vs_y hr (i:=0) (y:=y0) (by rw [hyy]; rfl)
            have g0:=hgc 0 y0 (by rw [hyy]; rfl)
            have hm0:y0 ∈ outT ts j:=by rw [hyy]; simp
            obtain ⟨hT0,s0,hs0,hc0⟩:=hv.tr y0 hm0
            rw [ht0] at hs0; cases hs0
            have z0:wr.cell? ⟨y0.tb,0,none⟩=some (.iface (ty t0.q.k) (.pointer (some ⟨t0.b,0,none⟩))):=St.tpCell (HH.out.1.pick 4) (outT_mem hm0) hc0
            have n0:=m_tr_getTarget hT0 y0.tb
            have b160:=as_kh (k:=t0.q.k) (t:=160) (e:=171) (by rw [hk0]; rfl) (by kernel_rfl)
            rw [hyy] at c6 hl
            rw [hg] at c6
            simp only [List.length_cons,List.length_nil] at c6 hl
            clear hk hv hx hyy ht0 hk0 hr hg hgc hm0 hT0 hc0
            go_wp2_with (first
              | (go_at_call 132; refine c132.mono ?_; rintro e w2 ⟨rfl,rfl⟩)
              | (go_at_call 284; refine (c284 _ _ _ c2).mono ?_; rintro e w2 ⟨rfl,rfl⟩)
              | (go_at_call 129; refine (c129 _ _ _ c6).mono ?_; rintro e w2 ⟨rfl,rfl⟩)
              | (go_at_call 126; refine (c126 _ _ _ z0).mono ?_; rintro e w2 ⟨rfl,rfl⟩))
            first | rw [Hw.out] | rw [show ((j:Int)+1)=((j+1:Nat):Int) from by omega]
            exact ⟨⟨j+1,hlt,rfl,rfl⟩,measS hlt⟩
        · as_aux_lemma =>
            clear hn1 hn7
            have a326:=as_km (k:=x.q.k) (t:=326) (e:=331) (by rw [hk]; decide) (by kernel_rfl) (by kernel_rfl)
            have a160:=as_km (k:=x.q.k) (t:=160) (e:=171) (by rw [hk]; decide) (by kernel_rfl) (by kernel_rfl)
            have a332:=as_km (k:=x.q.k) (t:=332) (e:=334) (by rw [hk]; decide) (by kernel_rfl) (by kernel_rfl)
            have a290:=as_kh (k:=x.q.k) (t:=290) (e:=299) (by rw [hk]; rfl) (by kernel_rfl)
            obtain ⟨T1,p1,e1⟩:=hv.k12 hk
            have c7:wr.cell? ⟨x.b,7,none⟩=some (.iface T1 (.pointer p1)):=by rw [← e1]; exact St.stCell (HH.out.1.pick 3) hx (cells7_12 hk)
            clear hk hv hx e1
            go_wp2_with (first
              | (go_at_call 132; refine c132.mono ?_; rintro e w2 ⟨rfl,rfl⟩)
              | (go_at_call 284; refine (c284 _ _ _ c2).mono ?_; rintro e w2 ⟨rfl,rfl⟩)
              | (go_at_call 129; refine (c129 _ _ _ c6).mono ?_; rintro e w2 ⟨rfl,rfl⟩))
            first | rw [Hw.out] | rw [show ((j:Int)+1)=((j+1:Nat):Int) from by omega]
            exact ⟨⟨j+1,hlt,rfl,rfl⟩,measS hlt⟩
        · as_aux_lemma =>
            clear hn1 hn7
            have a326:=as_km (k:=x.q.k) (t:=326) (e:=331) (by rw [hk]; decide) (by kernel_rfl) (by kernel_rfl)
            have a160:=as_km (k:=x.q.k) (t:=160) (e:=171) (by rw [hk]; decide) (by kernel_rfl) (by kernel_rfl)
            have a332:=as_km (k:=x.q.k) (t:=332) (e:=334) (by rw [hk]; decide) (by kernel_rfl) (by kernel_rfl)
            have a290:=as_km (k:=x.q.k) (t:=290) (e:=299) (by rw [hk]; decide) (by kernel_rfl) (by kernel_rfl)
            have a305:=as_kh (k:=x.q.k) (t:=305) (e:=304) (by rw [hk]; rfl) (by kernel_rfl)
            obtain ⟨T1,p1,e1⟩:=hv.k2 hk
            have c7:wr.cell? ⟨x.b,7,none⟩=some (.iface T1 (.pointer p1)):=by rw [← e1]; exact St.stCell (HH.out.1.pick 3) hx (cells7_2 hk)
            clear hk hv hx e1
            go_wp2_with (first
              | (go_at_call 132; refine c132.mono ?_; rintro e w2 ⟨rfl,rfl⟩)
              | (go_at_call 284; refine (c284 _ _ _ c2).mono ?_; rintro e w2 ⟨rfl,rfl⟩)
              | (go_at_call 129; refine (c129 _ _ _ c6).mono ?_; rintro e w2 ⟨rfl,rfl⟩))
            first | rw [Hw.out] | rw [show ((j:Int)+1)=((j+1:Nat):Int) from by omega]
            exact ⟨⟨j+1,hlt,rfl,rfl⟩,measS hlt⟩
        · as_aux_lemma =>
            clear hn1 hn7
            have a326:=as_km (k:=x.q.k) (t:=326) (e:=331) (by rcases hk with h | h <;> rw [h] <;> decide) (by kernel_rfl) (by kernel_rfl)
            have a160:=as_km (k:=x.q.k) (t:=160) (e:=171) (by rcases hk with h | h <;> rw [h] <;> decide) (by kernel_rfl) (by kernel_rfl)
            have a332:=as_km (k:=x.q.k) (t:=332) (e:=334) (by rcases hk with h | h <;> rw [h] <;> decide) (by kernel_rfl) (by kernel_rfl)
            have a290:=as_km (k:=x.q.k) (t:=290) (e:=299) (by rcases hk with h | h <;> rw [h] <;> decide) (by kernel_rfl) (by kernel_rfl)
            have a305:=as_km (k:=x.q.k) (t:=305) (e:=304) (by rcases hk with h | h <;> rw [h] <;> decide) (by kernel_rfl) (by kernel_rfl)
            have hB:BOk x.q.k:=⟨by omega⟩
            have a294:=as_blk_hit hB
            have n0:=m_bl_getEndState hB x.b
            obtain ⟨p1,e1⟩:=hv.blk hB
            have c9:wr.cell? ⟨x.b,9,none⟩=some (.pointer (some p1)):=by rw [← e1]; exact St.stCell (HH.out.1.pick 3) hx (cells9_B hB)
            clear hk hv hx e1 hB
            go_wp2_with (first
              | (go_at_call 132; refine c132.mono ?_; rintro e w2 ⟨rfl,rfl⟩)
              | (go_at_call 284; refine (c284 _ _ _ c2).mono ?_; rintro e w2 ⟨rfl,rfl⟩)
              | (go_at_call 129; refine (c129 _ _ _ c6).mono ?_; rintro e w2 ⟨rfl,rfl⟩)
              | (go_at_call 326; refine (c326 _ _ _ c9).mono ?_; rintro e w2 ⟨rfl,rfl⟩))
            first | rw [Hw.out] | rw [show ((j:Int)+1)=((j+1:Nat):Int) from by omega]
            exact ⟨⟨j+1,hlt,rfl,rfl⟩,measS hlt⟩
        · as_aux_lemma =>
            clear hn1 hn7
            have a326:=as_km (k:=x.q.k) (t:=326) (e:=331) (by rw [hk]; decide) (by kernel_rfl) (by kernel_rfl)
            have a160:=as_km (k:=x.q.k) (t:=160) (e:=171) (by rw [hk]; decide) (by kernel_rfl) (by kernel_rfl)
            have a332:=as_km (k:=x.q.k) (t:=332) (e:=334) (by rw [hk]; decide) (by kernel_rfl) (by kernel_rfl)
            have a290:=as_km (k:=x.q.k) (t:=290) (e:=299) (by rw [hk]; decide) (by kernel_rfl) (by kernel_rfl)
            have a305:=as_km (k:=x.q.k) (t:=305) (e:=304) (by rw [hk]; decide) (by kernel_rfl) (by kernel_rfl)
            have a294:=as_blk_miss (k:=x.q.k) ⟨hv.ok,by omega,by omega,by omega⟩
            have a301:=as_kh (k:=x.q.k) (t:=301) (e:=321) (by rw [hk]; rfl) (by kernel_rfl)
            obtain ⟨T1,p1,e1⟩:=hv.k8 hk
            have c7:wr.cell? ⟨x.b,7,none⟩=some (.iface T1 (.pointer p1)):=by rw [← e1]; exact St.stCell (HH.out.1.pick 3) hx (cells7_8 hk)
            clear hk hv hx e1
            go_wp2_with (first
              | (go_at_call 132; refine c132.mono ?_; rintro e w2 ⟨rfl,rfl⟩)
              | (go_at_call 284; refine (c284 _ _ _ c2).mono ?_; rintro e w2 ⟨rfl,rfl⟩)
              | (go_at_call 129; refine (c129 _ _ _ c6).mono ?_; rintro e w2 ⟨rfl,rfl⟩))
            first | rw [Hw.out] | rw [show ((j:Int)+1)=((j+1:Nat):Int) from by omega]
            exact ⟨⟨j+1,hlt,rfl,rfl⟩,measS hlt⟩
        · as_aux_lemma =>
            clear hn1 hn7
            have a326:=as_km (k:=x.q.k) (t:=326) (e:=331) (by rcases hk with h | h <;> rw [h] <;> decide) (by kernel_rfl) (by kernel_rfl)
            have a160:=as_km (k:=x.q.k) (t:=160) (e:=171) (by rcases hk with h | h <;> rw [h] <;> decide) (by kernel_rfl) (by kernel_rfl)
            have a332:=as_km (k:=x.q.k) (t:=332) (e:=334) (by rcases hk with h | h <;> rw [h] <;> decide) (by kernel_rfl) (by kernel_rfl)
            have a290:=as_km (k:=x.q.k) (t:=290) (e:=299) (by rcases hk with h | h <;> rw [h] <;> decide) (by kernel_rfl) (by kernel_rfl)
            have a305:=as_km (k:=x.q.k) (t:=305) (e:=304) (by rcases hk with h | h <;> rw [h] <;> decide) (by kernel_rfl) (by kernel_rfl)
            have a294:=as_blk_miss (k:=x.q.k) ⟨hv.ok,by omega,by omega,by omega⟩
            have a301:=as_km (k:=x.q.k) (t:=301) (e:=321) (by rcases hk with h | h <;> rw [h] <;> decide) (by kernel_rfl) (by kernel_rfl)
            have hD:DOk x.q.k:=⟨by omega⟩
            have a116:=fun w=>as_dec_hit hD x.b w
            have n0:=m_de_getDecision hD x.b
            have c7:wr.cell? ⟨x.b,7,none⟩=some (.int .i64 x.q.dec):=St.stCell (HH.out.1.pick 3) hx (cells7_D hD)
            have hdc:=hv.dec
            clear hk hv hx hD
            rcases Nat.lt_or_ge 1 (outT ts j).length with hq | hq
            · have hq1 : ¬ ((outT ts j).length:Int)≤1:=by omega
              clear hq
              go_wp2_with (first
                | (go_at_call 132; refine c132.mono ?_; rintro e w2 ⟨rfl,rfl⟩)
                | (go_at_call 284; refine (c284 _ _ _ c2).mono ?_; rintro e w2 ⟨rfl,rfl⟩)
                | (go_at_call 129; refine (c129 _ _ _ c6).mono ?_; rintro e w2 ⟨rfl,rfl⟩)
                | (go_at_call 295; refine (c295 _ _ _ c7).mono ?_; rintro e w2 ⟨rfl,rfl⟩))
              first | rw [Hw.out] | rw [show ((j:Int)+1)=((j+1:Nat):Int) from by omega]
              exact ⟨⟨j+1,hlt,rfl,rfl⟩,measS hlt⟩
            · have hq1:((outT ts j).length:Int)≤1:=by omega
              clear hq
              go_wp2_with (first
                | (go_at_call 132; refine c132.mono ?_; rintro e w2 ⟨rfl,rfl⟩)
                | (go_at_call 284; refine (c284 _ _ _ c2).mono ?_; rintro e w2 ⟨rfl,rfl⟩)
                | (go_at_call 129; refine (c129 _ _ _ c6).mono ?_; rintro e w2 ⟨rfl,rfl⟩)
                | (go_at_call 295; refine (c295 _ _ _ c7).mono ?_; rintro e w2 ⟨rfl,rfl⟩))
              first | rw [Hw.out] | rw [show ((j:Int)+1)=((j+1:Nat):Int) from by omega]
              exact ⟨⟨j+1,hlt,rfl,rfl⟩,measS hlt⟩
        · exact absurd hk hn1
        · exact absurd hk hn7
    · have hk1 : ¬ (j:Int)<(M.length:Int):=by omega
      go_wp2_with fail
      go_end0
      exact ⟨rfl,rfl⟩
end Go.Proofs.YtbcngfgemjdllaaGreatDoor
