/- Part 34: Z8, Z9, Z10, Z11. -/
import Derived.Deep.AppendLies
import Derived.Test.YtbcngfgemjdllaaGreatDoorB33
set_option linter.unusedVariables false
set_option linter.unusedSimpArgs false
section
namespace Go.Proofs.YtbcngfgemjdllaaGreatDoor
open Go.RowKit Go.Own
variable {B:Nat} {w0 w:World} {r:List HP}
theorem sl109:SlT Tryz.prog 109 239 1 8 (.pointer none):=⟨by kernel_rfl,sl_inf' (by kernel_rfl),by kernel_rfl,by decide⟩
theorem sl107:SlT Tryz.prog 107 336 1 16 .nilIface:=⟨by kernel_rfl,sl_inf' (by kernel_rfl),by kernel_rfl,by decide⟩
theorem as_6 {k:Nat} (h:k=6) (p:Value) (w:World):(Instr.typeAssert (.iface (ty k) p) 169 239 false).run Tryz.prog w=.ok p w:=by subst h; exact run_assert_plain (e:=468) (by kernel_rfl)
def R85 (P0 P1:World→Prop) (i:Value) (w:World):Prop:=(i=.int .i64 0∧P0 w)∨(i=.int .i64 1∧P1 w)
set_option maxRecDepth 100000 in
set_option maxHeartbeats 4000000 in
theorem c85 {Z:ZC} {A:AtC} {xs rest:List Int} {pos:Nat} {L:List LS} {sa:Option Addr} {sc:Nat} {t:LS} (hR:RdZ Z B w0 xs) (hx:xs.drop pos=1::0::rest) (ht:L[0]? = some t) (ht6:t.q.k=6) (H:St B w0 (zwL Z pos A sa sc L++r) w) :
    Calls Tryz.prog 85 #[.pointer (some ⟨Z.bd,0,none⟩),.pointer (some ⟨Z.at_,0,none⟩)] w fun e w'=>e=.returned (.tuple #[])∧∃ (pos' g5:Nat),xs.drop pos'=rest ∧
      St B w0 (zwL Z pos' { A with md:=.slice (some ⟨g5,0,none⟩) 1 1 } sa sc L++(pts g5 239 [.pointer (some ⟨t.b,0,none⟩)]::r)) w':=by
  obtain ⟨zs,hz,hy,hm⟩:=run_mk sl109 (l:=1) (c:=1) (Nat.le_refl _) (by omega) (by omega)
  have hr:=rep_of (fun j=>hy j (.pointer none) rfl (by kernel_rfl))
  subst hr
  have hm5:∀ w:World,(Instr.makeSlice 109 (.int .i64 1) (.int .i64 1)).run Tryz.prog w=.ok (.slice (some ⟨w.heap.size,0,none⟩) 1 1) (w.alloc (ob 239 [.pointer none])):=hm
  obtain ⟨_,hx2⟩:=rd_head hx
  obtain ⟨_,hx3⟩:=rd_head hx2
  have HR:=Lib.hid hR
  have HX:=Lib.hid (And.intro hx2 hx3)
  have H1:=Lib.hid (hR.c117 hx H)
  have hta:=as_6 ht6
  have Ht:=Lib.hid (And.intro ht ht6)
  clear hR hx hx2 hx3 H hz hy hm ht ht6
  go_enter Tryz.func85,Tryz.ntmps85
  go_wp2_with fail
  go_at_call 117
  refine H1.out.mono ?_
  rintro e w1 ⟨rfl,h1⟩
  have H2:=(h1.alloc (ob 239 [.pointer none])).pick 2
  have q5:=H2.cells.1 5
  have q5f:=H2.cells.2 5
  have H3:=H2.setCell (off:=5) (.slice (some ⟨w1.heap.size,0,none⟩) 1 1)
  have q55:((w1.alloc (ob 239 [.pointer none])).setCell ⟨Z.at_,5,none⟩ (.slice (some ⟨w1.heap.size,0,none⟩) 1 1)).cell? ⟨Z.at_,5,none⟩=some (.slice (some ⟨w1.heap.size,0,none⟩) 1 1):=H3.cells.1 5
  have HH:=Lib.hid H3
  clear h1 H1 H2 H3
  go_wp2_with fail
  generalize w1.heap.size=g5 at HH q55 ⊢
  have H4:=Lib.hid ((((HH.out.pick 1).pick 4).pick 4).pick 3 |>.pick 4)
  go_loopw [19] (R85 (fun w=>St B w0 (zwL Z (pos+1) { A with md:=.slice (some ⟨g5,0,none⟩) 1 1 } sa sc L++(pts g5 239 [.pointer none]::r)) w) (fun w=>St B w0 (zwL Z (pos+1+1) { A with md:=.slice (some ⟨g5,0,none⟩) 1 1 } sa sc L++(pts g5 239 [.pointer (some ⟨t.b,0,none⟩)]::r)) w)) (fun i _=>1 - (intOf i).toNat)
  case atStart=>exact Or.inl ⟨rfl,H4.out⟩
  case round =>
    clear HH H4 q5 q5f q55
    rcases hrel with ⟨rfl,H⟩ | ⟨rfl,H⟩
    · have H5:=Lib.hid (HR.out.c117 HX.out.1 H)
      clear H
      go_wp2_with fail
      go_at_call 117
      refine H5.out.mono ?_
      rintro e w2 ⟨rfl,h2⟩
      have x5:w2.cell? ⟨Z.at_,5,none⟩=some (.slice (some ⟨g5,0,none⟩) 1 1):=(h2.pick 1).cells.1 5
      have x9:w2.cell? ⟨Z.at_,9,none⟩=some (.slice sa L.length sc):=(h2.pick 1).cells.1 9
      have hl0:0<L.length:=(List.getElem?_eq_some_iff.1 Ht.out.1).1
      obtain ⟨gs,hgs,hcs⟩:=(RowAt.of (h2.pick 2)) (by intro h; have:=congrArg List.length h; rw [List.length_map] at this; simp at this; rw [this] at hl0; simp at hl0)
      subst hgs
      have xs1:w2.cell? ⟨gs,0,none⟩=some (.iface (ty t.q.k) (.pointer (some ⟨t.b,0,none⟩))):=hcs 0 _ (by rw [List.getElem?_map,Ht.out.1]; rfl)
      have v5:w2.cell? ⟨g5,0,none⟩=some (.pointer none):=(h2.pick 4).cells.1 0
      have v5f:=(h2.pick 4).cells.2 0
      have hb1:(0:Int)<(L.length:Int):=by omega
      have d5:w2.drew.cell? ⟨Z.at_,5,none⟩=some (.slice (some ⟨g5,0,none⟩) 1 1):=x5
      have d9:w2.drew.cell? ⟨Z.at_,9,none⟩=some (.slice (some ⟨gs,0,none⟩) L.length sc):=x9
      have ds:w2.drew.cell? ⟨gs,0,none⟩=some (.iface (ty t.q.k) (.pointer (some ⟨t.b,0,none⟩))):=xs1
      have dv:w2.drew.cell? ⟨g5,0,none⟩=some (.pointer none):=v5
      have dvf:w2.drew.frozen? ⟨g5,0,none⟩=false:=v5f
      have H6:=Lib.hid (((((h2.pick 4).setCell (off:=0) (.pointer (some ⟨t.b,0,none⟩))).pick 4).pick 4).pick 4 |>.pick 4 |>.drew)
      clear h2 hcs H5
      go_wp2_with fail
      go_region
      all_goals
        go_wp2_with fail
        exact ⟨Or.inr ⟨rfl,H6.out⟩,by decide⟩
    · have HH:=Lib.hid H
      clear H
      go_wp2_with fail
      go_end0
      exact ⟨rfl,_,_,HX.out.2,HH.out⟩
theorem c86 {Z:ZC} {A:AtC} {xs rest:List Int} {pos:Nat} {L:List LS} {sa:Option Addr} {sc:Nat} (hR:RdZ Z B w0 xs) (hx:xs.drop pos=0::rest) (H:St B w0 (zwL Z pos A sa sc L++r) w) :
    Calls Tryz.prog 86 #[.pointer (some ⟨Z.bd,0,none⟩),.pointer (some ⟨Z.at_,0,none⟩),.slice none 0 0] w fun e w'=>e=.returned (.slice none 0 0)∧xs.drop (pos+1)=rest∧St B w0 (zwL Z (pos+1) A sa sc L++r) w':=by
  obtain ⟨_,hx2⟩:=rd_head hx
  have HX:=Lib.hid hx2
  have H1:=Lib.hid (hR.c117 hx H)
  clear hR hx hx2 H
  go_enter Tryz.func86,Tryz.ntmps86
  go_wp2_with fail
  go_at_call 117
  refine H1.out.mono ?_
  rintro e w1 ⟨rfl,h1⟩
  have HH:=Lib.hid h1
  clear h1 H1
  go_wp2_with fail
  go_loopw [2,9] (fun v i w=>v=.slice none 0 0∧i=.int .i64 0∧w=w1) (fun _ _ _=>0)
  case atStart=>exact ⟨rfl,rfl,rfl⟩
  case round =>
    obtain ⟨rfl,rfl,rfl⟩:=hrel
    go_wp2_with fail
    go_ret
    exact ⟨rfl,HX.out,HH.out⟩
theorem c89 {Z:ZC} {A:AtC} {xs rest:List Int} {pos:Nat} {L:List LS} {sa:Option Addr} {sc:Nat} (hR:RdZ Z B w0 xs) (hx:xs.drop pos=0::rest) (H:St B w0 (zwL Z pos A sa sc L++r) w) :
    Calls Tryz.prog 89 #[.pointer (some ⟨Z.bd,0,none⟩),.pointer (some ⟨Z.at_,0,none⟩)] w fun e w'=>e=.returned (.tuple #[])∧∃ la,xs.drop (pos+1)=rest∧St B w0 (zwL Z (pos+1) { A with la:=la } sa sc L++r) w':=by
  obtain ⟨zs,hz,hy,hm⟩:=run_mk sl107 (l:=0) (c:=0) (Nat.le_refl _) (by omega) (by omega)
  have hr:zs=[]:=List.eq_nil_of_length_eq_zero (by rw [hz])
  subst hr
  have hm5:∀ w:World,(Instr.makeSlice 107 (.int .i64 0) (.int .i64 0)).run Tryz.prog w=.ok (.slice (some ⟨w.heap.size,0,none⟩) 0 0) (w.alloc (ob 336 [])):=hm
  obtain ⟨_,hx2⟩:=rd_head hx
  have HX:=Lib.hid hx2
  have q1:w.cell? ⟨Z.at_,1,none⟩=some (.int .i64 0):=(H.pick 1).cells.1 1
  have H1:=Lib.hid (hR.c117 hx H)
  clear hR hx hx2 H hz hy hm
  go_enter Tryz.func89,Tryz.ntmps89
  go_wp2_with fail
  go_at_call 117
  refine H1.out.mono ?_
  rintro e w1 ⟨rfl,h1⟩
  have H2:=(h1.alloc (ob 336 [])).pick 2
  have q5:=H2.cells.1 2
  have q5f:=H2.cells.2 2
  have H3:=H2.setCell (off:=2) (.slice (some ⟨w1.heap.size,0,none⟩) 0 0)
  have q55:((w1.alloc (ob 336 [])).setCell ⟨Z.at_,2,none⟩ (.slice (some ⟨w1.heap.size,0,none⟩) 0 0)).cell? ⟨Z.at_,2,none⟩=some (.slice (some ⟨w1.heap.size,0,none⟩) 0 0):=H3.cells.1 2
  have HH:=Lib.hid H3
  clear h1 H1 H2 H3
  go_wp2_with fail
  generalize w1.heap.size=g5 at HH q55 ⊢
  have H4:=Lib.hid (((HH.out.pick 1).drop.pick 1))
  obtain ⟨W,hW⟩:∃ W,W=(w1.alloc (ob 336 [])).setCell ⟨Z.at_,2,none⟩ (.slice (some ⟨g5,0,none⟩) 0 0):=⟨_,rfl⟩
  rw [← hW] at H4
  go_loopw [26] (R0 fun w=>w=W) (fun _ _=>0)
  case atStart=>exact ⟨rfl,hW.symm⟩
  case round =>
    clear hW HH q55 q5 q5f
    obtain ⟨rfl,rfl⟩:=hrel
    go_wp2_with fail
    go_end0
    exact ⟨rfl,.slice (some ⟨g5,0,none⟩) 0 0,HX.out,H4.out⟩
def R90 (P:World→Prop) (n:Nat) (i:Value) (w:World):Prop:=∃ j:Nat,j≤n∧i=.int .i64 (j:Int)∧P w
theorem as_10m {k:Nat} (h:KOk k) (hn:k≠10) (p:Value) (w:World):(Instr.typeAssert (.iface (ty k) p) 169 160 true).run Tryz.prog w=.ok (.tuple #[.pointer none,.bool false]) w:=by
  refine run_assert_miss (e:=171) (by kernel_rfl) (by kernel_rfl) ?_
  rcases h.cases with rfl | rfl | rfl | rfl | rfl | rfl | rfl | rfl | rfl | rfl | rfl | rfl <;> first | decide | exact absurd rfl hn
theorem as_10h {k:Nat} (h:k=10) (p:Value) (w:World):(Instr.typeAssert (.iface (ty k) p) 169 160 true).run Tryz.prog w=.ok (.tuple #[p,.bool true]) w:=by subst h; exact run_assert_hit (e:=171) (by kernel_rfl)
theorem cells8_2 {q:Sq} {a:Value} {n:Int} (h:q.k=2):(q.cells a n)[8]? = some (.bool false):=by
  unfold Sq.cells Sq.ex
  rw [h]; rfl
set_option maxRecDepth 100000 in
set_option maxHeartbeats 4000000 in
theorem c90 {Z:ZC} {A:AtC} {pos:Nat} {L:List LS} {sa:Option Addr} {sc g6:Nat} {ruls:List (Nat × Nat)} (hN:ruls.length<1000000) (hL:L.length<1000000) (hA:A.rst=.slice (some ⟨g6,0,none⟩) ruls.length ruls.length)
    (hrs:∀ x ∈ ruls,∃ t,L[x.1]? = some t∧t.q.k=2) (hru:∀ t ∈ L,t.q.k=10→∃ ρ,ρ < ruls.length∧t.q.ru=(ρ : Int)) (hk:∀ t ∈ L,KOk t.q.k) (H:St B w0 (zwL Z pos A sa sc L++(pts g6 305 (ruls.map (rsV L))::r)) w) :
    Calls Tryz.prog 90 #[.pointer (some ⟨Z.bd,0,none⟩),.pointer (some ⟨Z.at_,0,none⟩)] w fun e w'=>e=.returned (.tuple #[])∧St B w0 (zwL Z pos A sa sc L++(pts g6 305 (ruls.map (rsV L))::r)) w':=by
  have q9:w.cell? ⟨Z.at_,9,none⟩=some (.slice sa L.length sc):=(H.pick 1).cells.1 9
  have HH:=Lib.hid H
  have HS:=Lib.hid (And.intro hrs (And.intro hru (And.intro hk hA)))
  clear H hrs hru hk hA
  go_enter Tryz.func90,Tryz.ntmps90
  go_wp2_with fail
  go_loopw [18] (R90 (fun w=>St B w0 (zwL Z pos A sa sc L++(pts g6 305 (ruls.map (rsV L))::r)) w) L.length) (fun i _=>L.length - (intOf i).toNat)
  case atStart=>exact ⟨0,Nat.zero_le _,rfl,HH.out⟩
  case round =>
    clear HH q9
    obtain ⟨j,hj,rfl,H1⟩:=hrel
    by_cases hlt:j<L.length
    · obtain ⟨x,hx⟩:∃ x,L[j]? = some x:=⟨_,List.getElem?_eq_getElem hlt⟩
      have hk0:(0:Int)≤(j:Int):=Int.natCast_nonneg _
      have hk1:(j:Int)<(L.length:Int):=by omega
      have Hw:=Lib.hid (wrapS hlt (by omega))
      have hKO:=HS.out.2.2.1 x (List.mem_of_getElem? hx)
      obtain ⟨gs,hgs,hcs⟩:=(RowAt.of (H1.pick 2)) (by intro h; have:=congrArg List.length h; rw [List.length_map] at this; simp at this; rw [this] at hlt; simp at hlt)
      subst hgs
      have xs1:wr.cell? ⟨gs,j,none⟩=some (.iface (ty x.q.k) (.pointer (some ⟨x.b,0,none⟩))):=hcs j _ (by rw [List.getElem?_map,hx]; rfl)
      have Hx:=Lib.hid hx
      clear hcs hx
      by_cases h10:x.q.k=10
      · obtain ⟨ρ,hρ,hru⟩:=HS.out.2.1 x (List.mem_of_getElem? Hx.out) h10
        obtain ⟨t,ht,ht2⟩:=HS.out.1 _ (List.getElem_mem hρ)
        have hg6:(ruls.map (rsV L))[ρ]? = some (.pointer (some ⟨t.b,0,none⟩)):=by
          rw [List.getElem?_map,List.getElem?_eq_getElem hρ]
          show some (lkp L _)=_
          unfold lkp; rw [ht]
        have hta:=as_10h h10
        have hmr:=m_st_GetRuleIndex hKO x.b
        have x3:wr.cell? ⟨x.b,3,none⟩=some (.int .i64 (ρ : Int)):=St.stCell (H1.pick 3) Hx.out (by rw [← hru]; rfl)
        have x6:wr.cell? ⟨Z.at_,6,none⟩=some (.slice (some ⟨g6,0,none⟩) ruls.length ruls.length):=by rw [← HS.out.2.2.2]; exact (H1.pick 1).cells.1 6
        have xg:wr.cell? ⟨g6,ρ,none⟩=some (.pointer (some ⟨t.b,0,none⟩)):=by rw [(H1.pick 4).cells.1 ρ,hg6]
        have xt:wr.cell? ⟨t.b,8,none⟩=some (.bool false):=St.stCell (H1.pick 3) ht (cells8_2 ht2)
        have hb0:(0:Int)≤(ρ : Int):=Int.natCast_nonneg _
        have hb1:(ρ : Int)<(ruls.length:Int):=by omega
        have HH:=Lib.hid H1
        clear H1 h10 hru ht ht2 hg6 hKO hρ
        go_wp2_with (first
          | (go_quiet (first | (go_at_call 286; exact Calls.quiet_of_same ((c286 _ _ _ (by exact x3)).mono (by rintro e w' ⟨h1,h2⟩; exact ⟨h1,h2.symm⟩))))))
        first | rw [Hw.out] | rw [show ((j:Int)+1)=((j+1:Nat):Int) from by omega]
        exact ⟨⟨j+1,hlt,rfl,HH.out.drewN _⟩,measS hlt⟩
      · have hta:=as_10m hKO h10
        have HH:=Lib.hid H1
        clear H1 h10 hKO
        go_wp2_with fail
        first | rw [Hw.out] | rw [show ((j:Int)+1)=((j+1:Nat):Int) from by omega]
        exact ⟨⟨j+1,hlt,rfl,HH.out⟩,measS hlt⟩
    · have hk1 : ¬ (j:Int)<(L.length:Int):=by omega
      have hkl:j=L.length:=by omega
      subst hkl
      have HH:=Lib.hid H1
      clear H1
      go_wp2_with fail
      go_end0
      exact ⟨rfl,HH.out⟩
end Go.Proofs.YtbcngfgemjdllaaGreatDoor
end
section
namespace Go.Proofs.YtbcngfgemjdllaaGreatDoor
open Go.RowKit Go.Own
variable {B:Nat} {w0 w:World} {r:List HP}
theorem sl377:SlT Tryz.prog 377 382 2 16 (.agg #[.int .i64 0,.int .i64 0]):=⟨by kernel_rfl,sl_inf' (by kernel_rfl),by kernel_rfl,by decide⟩
theorem c122 (H:St B w0 r w):Calls Tryz.prog 122 #[] w fun e w'=>e=.returned (.pointer (some ⟨w.heap.size,0,none⟩))∧St B w0 (pts w.heap.size 379 [.slice none 0 0,.bool false]::r) w':=by
  have H1:=H.alloc (ob 379 [.slice none 0 0,.bool false])
  go_enter Tryz.func122,Tryz.ntmps122
  go_wp2_with fail
  go_ret
  exact ⟨rfl,H1⟩
theorem c171 {x y:Int} (H:St B w0 r w):Calls Tryz.prog 171 #[.int .i64 x,.int .i64 y] w fun e w'=>e=.returned (.agg #[.int .i64 x,.int .i64 y])∧St B w0 r w':=by
  have H1:=H.alloc (ob 382 [.int .i64 x,.int .i64 y])
  have q0:=H1.cells.1 0
  have q1:=H1.cells.1 1
  simp only [List.getElem?_cons_zero,List.getElem?_cons_succ] at q0 q1
  have H2:=Lib.hid H1.drop
  clear H H1
  go_enter Tryz.func171,Tryz.ntmps171
  go_wp2_with fail
  refine bodyPost_ret (v:=.agg #[.int .i64 x,.int .i64 y]) ?_ rfl ⟨rfl,H2.out⟩
  clear H2
  generalize (w.alloc (ob 382 _))=W at q0 q1 ⊢
  simp [results,Tryz.results171,go_sem,q0,q1]
theorem sl_nil377 (w:World):(binOp .eql 377 (.slice none 0 0) (.slice none 0 0)).run Tryz.prog w=.ok (.bool true) w:=by kernel_rfl
set_option maxRecDepth 100000 in
set_option maxHeartbeats 4000000 in
theorem c170 {s:Nat} {x y:Int} (H:St B w0 (pts s 379 [.slice none 0 0,.bool false]::r) w):Calls Tryz.prog 170 #[.pointer (some ⟨s,0,none⟩),.agg #[.int .i64 x,.int .i64 y]] w fun e w'=>e=.returned (.tuple #[])∧∃ v,St B w0 (pts s 379 [v,.bool false]::r) w':=by
  obtain ⟨zs,hz,hy,hm⟩:=run_mk sl377 (l:=0) (c:=0) (Nat.le_refl _) (by omega) (by omega)
  have hr:zs=[]:=List.eq_nil_of_length_eq_zero (by rw [hz])
  subst hr
  have hm5:∀ w:World,(Instr.makeSlice 377 (.int .i64 0) (.int .i64 0)).run Tryz.prog w=.ok (.slice (some ⟨w.heap.size,0,none⟩) 0 0) (w.alloc (.cells #[] 382)):=hm
  have H1:=(H.alloc (ob 382 [.int .i64 x,.int .i64 y])).pick 1
  have q0:(w.alloc (.cells #[.int .i64 x,.int .i64 y] 382)).cell? ⟨s,0,none⟩=some (.slice none 0 0):=H1.cells.1 0
  have H2:=(H1.alloc (ob 382 [])).pick 1
  have q2:((w.alloc (.cells #[.int .i64 x,.int .i64 y] 382)).alloc (.cells #[] 382)).cell? ⟨s,0,none⟩=some (.slice none 0 0):=H2.cells.1 0
  have q2f:((w.alloc (.cells #[.int .i64 x,.int .i64 y] 382)).alloc (.cells #[] 382)).frozen? ⟨s,0,none⟩=false:=H2.cells.2 0
  have hsz:(w.alloc (ob 382 [.int .i64 x,.int .i64 y])).heap.size=w.heap.size+1:=Array.size_push _
  have H3:=H2.setCell (off:=0) (.slice (some ⟨w.heap.size+1,0,none⟩) 0 0)
  rw [hsz] at H3
  have HH:=Lib.hid H3
  have Hz:=Lib.hid hsz
  clear H H1 H2 H3 hz hy hm hsz
  have hnil:=sl_nil377
  go_enter Tryz.func170,Tryz.ntmps170
  go_wp2_with fail
  try rw [Hz.out]
  clear q0 q2 q2f hm5
  obtain ⟨W,hW⟩:∃ W,W=((w.alloc (.cells #[.int .i64 x,.int .i64 y] 382)).alloc (.cells #[] 382)).setCell ⟨s,0,none⟩ (.slice (some ⟨w.heap.size+1,0,none⟩) 0 0):=⟨_,rfl⟩
  have K1:St B w0 (pts s 379 [.slice (some ⟨w.heap.size+1,0,none⟩) 0 0,.bool false]::pts (w.heap.size+1) 382 []::pts w.heap.size 382 [.int .i64 x,.int .i64 y]::r) W:=by rw [hW]; exact HH.out
  rw [← hW]
  clear hW HH Hz
  generalize w.heap.size+1=g2 at K1 ⊢
  generalize w.heap.size=g1 at K1 ⊢
  have K2:=St.ownMade (sz:=2) (cap:=0) (K1.pick 1) 0 (Nat.zero_le _) rfl (Nat.zero_le _)
  have HA:∀ o,St B w0 (pto W.heap.size o::Osl (.slice (some ⟨g2,0,none⟩) 0 0) 382 2 0 []::pts s 379 [.slice (some ⟨g2,0,none⟩) 0 0,.bool false]::pts g1 382 [.int .i64 x,.int .i64 y]::r) (W.drew.alloc o):=fun o=>K2.drew.alloc o
  have a1:W.cell? ⟨s,0,none⟩=some (.slice (some ⟨g2,0,none⟩) 0 0):=K1.cells.1 0
  have a2:W.drew.cell? ⟨s,0,none⟩=some (.slice (some ⟨g2,0,none⟩) 0 0):=a1
  have a3:∀ o,((W.alloc o).drew).cell? ⟨s,0,none⟩=some (.slice (some ⟨g2,0,none⟩) 0 0):=fun o=>((K1.alloc o).drew.pick 1).cells.1 0
  have b1:W.cell? ⟨g1,0,none⟩=some (.int .i64 x):=(K1.pick 2).cells.1 0
  have b2:W.drew.cell? ⟨g1,0,none⟩=some (.int .i64 x):=b1
  have c1:W.cell? ⟨g1,1,none⟩=some (.int .i64 y):=(K1.pick 2).cells.1 1
  have c2:W.drew.cell? ⟨g1,1,none⟩=some (.int .i64 y):=c1
  clear K1 K2
  go_region_law
    (first
      | (refine step_append1_st rfl _ _ rfl sl377 (g:=W.heap.size) (news:=[.int .i64 x,.int .i64 y]) (HA _) rfl 1 rfl rfl rfl (by simp [Value.oneCell']) (by simp [maxLen]) (by simp) ?_
         intro a5 c5 w5 H5
         have hcs:=(H5.pick 1).cells.1 0
         have hfs:=(H5.pick 1).cells.2 0
         have H6:=Lib.hid ((H5.pick 1).setCell (off:=0) (.slice a5 (0+1) c5))))
  all_goals
    go_end0
    exact ⟨rfl,_,((H6.out.pick 1).drop.pick 1).drop⟩
theorem c124 {s:Nat} {x y:Int} (hy:0≤y∧y<1000000) (H:St B w0 (pts s 379 [.slice none 0 0,.bool false]::r) w):Calls Tryz.prog 124 #[.pointer (some ⟨s,0,none⟩),.int .i64 x,.int .i64 y] w fun e w'=>e=.returned (.tuple #[])∧∃ v,St B w0 (pts s 379 [v,.bool false]::r) w':=by
  have H1:=Lib.hid H
  have hw:=IntWalk.wrap64_in (y+1) (by omega)
  clear H
  go_enter Tryz.func124,Tryz.ntmps124
  go_wp2_with (first
    | (go_at_call 171; refine (c171 H1.out).mono ?_; rintro e w1 ⟨rfl,h1⟩
       have H2:=Lib.hid h1
       clear h1)
    | (go_at_call 170; refine (c170 H2.out).mono ?_; rintro e w2 ⟨rfl,v,h2⟩
       have H3:=Lib.hid h2
       clear h2))
  go_end0
  exact ⟨rfl,v,H3.out⟩
theorem c123 {s:Nat} {y:Int} (hy:0≤y∧y<1000000) (H:St B w0 (pts s 379 [.slice none 0 0,.bool false]::r) w):Calls Tryz.prog 123 #[.pointer (some ⟨s,0,none⟩),.int .i64 y] w fun e w'=>e=.returned (.tuple #[])∧∃ v,St B w0 (pts s 379 [v,.bool false]::r) w':=by
  have H1:=Lib.hid H
  have hw:=IntWalk.wrap64_in (y+1) (by omega)
  clear H
  go_enter Tryz.func123,Tryz.ntmps123
  go_wp2_with (first
    | (go_at_call 171; refine (c171 H1.out).mono ?_; rintro e w1 ⟨rfl,h1⟩
       have H2:=Lib.hid h1
       clear h1)
    | (go_at_call 170; refine (c170 H2.out).mono ?_; rintro e w2 ⟨rfl,v,h2⟩
       have H3:=Lib.hid h2
       clear h2))
  go_end0
  exact ⟨rfl,v,H3.out⟩
theorem c217 {tb : Nat} {x y : Int} {cs : List Value} (hy : 0 ≤ y ∧ y < 1000000) (h5 : cs[5]? = some (.int .i64 x)) (h6 : cs[6]? = some (.int .i64 y)) (H : St B w0 (pts tb 470 cs :: r) w) :
    Calls Tryz.prog 217 #[.pointer (some ⟨tb,0,none⟩)] w fun e w'=>∃ s,e=.returned (.pointer (some ⟨s,0,none⟩))∧St B w0 (pts tb 470 cs::r) w':=by
  have H1:=Lib.hid (c122 H)
  have Hc:=Lib.hid (And.intro h5 h6)
  clear H h5 h6
  go_enter Tryz.func217,Tryz.ntmps217
  go_wp2_with fail
  go_at_call 122
  refine H1.out.mono ?_
  rintro e w1 ⟨rfl,h1⟩
  have q5:w1.cell? ⟨tb,5,none⟩=some (.int .i64 x):=by rw [(h1.pick 1).cells.1 5,Hc.out.1]
  have q6:w1.cell? ⟨tb,6,none⟩=some (.int .i64 y):=by rw [(h1.pick 1).cells.1 6,Hc.out.2]
  have d5:w1.drew.cell? ⟨tb,5,none⟩=some (.int .i64 x):=q5
  have d6:w1.drew.cell? ⟨tb,6,none⟩=some (.int .i64 y):=q6
  have H2:=Lib.hid (c124 (x:=x) hy h1.drew)
  clear h1 H1
  go_wp2_with fail
  go_region_with (refine H2.out.mono ?_; rintro e w2 ⟨rfl,v,h2⟩
                  have H3:=Lib.hid h2.drop
                  clear h2)
  all_goals
    go_wp2_with fail
    go_ret
    exact ⟨_,rfl,H3.out⟩
theorem c218 {tb:Nat} {y:Int} {cs:List Value} (hy:0≤y∧y<1000000) (h2:cs[2]? = some (.int .i64 y)) (H:St B w0 (pts tb 473 cs::r) w) :
    Calls Tryz.prog 218 #[.pointer (some ⟨tb,0,none⟩)] w fun e w'=>∃ s,e=.returned (.pointer (some ⟨s,0,none⟩))∧St B w0 (pts tb 473 cs::r) w':=by
  have H1:=Lib.hid (c122 H)
  have Hc:=Lib.hid h2
  clear H h2
  go_enter Tryz.func218,Tryz.ntmps218
  go_wp2_with fail
  go_at_call 122
  refine H1.out.mono ?_
  rintro e w1 ⟨rfl,h1⟩
  have q5:w1.cell? ⟨tb,2,none⟩=some (.int .i64 y):=by rw [(h1.pick 1).cells.1 2,Hc.out]
  have H2:=Lib.hid (c123 hy h1)
  clear h1 H1
  go_wp2_with fail
  go_at_call 123
  refine H2.out.mono ?_
  rintro e w2 ⟨rfl,v,h2⟩
  have H3:=Lib.hid h2.drop
  clear h2
  go_wp2_with fail
  go_ret
  exact ⟨_,rfl,H3.out⟩
theorem c127 {k b:Nat} (H:St B w0 r w):Calls Tryz.prog 127 #[ifV k b,.int .i64 (-1)] w fun e w'=>∃ tb,e=.returned (.pointer (some ⟨tb,0,none⟩))∧St B w0 (pts tb 403 [ifV k b,.bool true,.int .i64 0,.pointer none,.int .i64 1,.int .i64 (-1)]::r) w':=by
  have H1:=H.alloc (ob 403 [ifV k b,.bool true,.int .i64 0,.pointer none,.int .i64 1,.int .i64 (-1)])
  unfold ifV at *
  generalize ty k=T at *
  go_enter Tryz.func127,Tryz.ntmps127
  go_wp2_with fail
  go_ret
  exact ⟨_,rfl,H1⟩
theorem c172 {k b:Nat} {x y:Int} (hy:0≤y∧y<1000000) (H:St B w0 r w):Calls Tryz.prog 172 #[ifV k b,.int .i64 x,.int .i64 y] w fun e w'=>∃ tb s,e=.returned (.pointer (some ⟨tb,0,none⟩))∧St B w0 (pts tb 470 [ifV k b,.bool false,.int .i64 0,.pointer (some ⟨s,0,none⟩),.int .i64 2,.int .i64 x,.int .i64 y]::r) w':=by
  have H1:=Lib.hid (c217 (x:=x) hy rfl rfl (H.alloc (ob 470 [ifV k b,.bool false,.int .i64 0,.pointer none,.int .i64 2,.int .i64 x,.int .i64 y])))
  clear H
  unfold ifV at *
  generalize ty k=T at *
  go_enter Tryz.func172,Tryz.ntmps172
  go_wp2_with fail
  go_at_call 217
  refine H1.out.mono ?_
  rintro e w1 ⟨s,rfl,h1⟩
  have q3:=h1.cells.1 3
  have q3f:=h1.cells.2 3
  have H2:=Lib.hid (h1.setCell (off:=3) (.pointer (some ⟨s,0,none⟩)))
  clear h1 H1
  go_wp2_with fail
  go_ret
  exact ⟨_,s,rfl,H2.out⟩
theorem c176 {k b:Nat} {y:Int} (hy:0≤y∧y<1000000) (H:St B w0 r w):Calls Tryz.prog 176 #[ifV k b,.int .i64 y] w fun e w'=>∃ tb s,e=.returned (.pointer (some ⟨tb,0,none⟩))∧St B w0 (pts tb 473 [ifV k b,.bool false,.int .i64 y,.pointer (some ⟨s,0,none⟩),.int .i64 5]::r) w':=by
  have H1:=Lib.hid (c218 hy rfl (H.alloc (ob 473 [ifV k b,.bool false,.int .i64 y,.pointer none,.int .i64 5])))
  clear H
  unfold ifV at *
  generalize ty k=T at *
  go_enter Tryz.func176,Tryz.ntmps176
  go_wp2_with fail
  go_at_call 218
  refine H1.out.mono ?_
  rintro e w1 ⟨s,rfl,h1⟩
  have q3:=h1.cells.1 3
  have q3f:=h1.cells.2 3
  have H2:=Lib.hid (h1.setCell (off:=3) (.pointer (some ⟨s,0,none⟩)))
  clear h1 H1
  go_wp2_with fail
  go_ret
  exact ⟨_,s,rfl,H2.out⟩
end Go.Proofs.YtbcngfgemjdllaaGreatDoor
end
section
namespace Go.Proofs.YtbcngfgemjdllaaGreatDoor
open Go.RowKit Go.Own
variable {B:Nat} {w0 w:World} {r:List HP}
theorem sl163':SlT Tryz.prog 163 266 1 16 .nilIface:=⟨by kernel_rfl,sl_inf' (by kernel_rfl),by kernel_rfl,by decide⟩
def eoA (n:Nat) (eo te:Bool):Bool:=if n=0 then te else (eo && te)
set_option maxRecDepth 100000 in
set_option maxHeartbeats 4000000 in
theorem c128 {b n tc tk tb:Nat} {T T':TypeId} {ta:Option Addr} {cs tcs tl:List Value} {eo te:Bool} (hk:TOk tk) (hn:n<1000000) (h2:cs[2]? = some (.bool eo)) (h6:cs[6]? = some (.slice ta n tc)) (h1:tcs[1]? = some (.bool te))
    (H:St B w0 (pts b T cs::Osl (.slice ta n tc) 266 1 n tl::pts tb T' tcs::r) w) :
    Calls Tryz.prog 128 #[.pointer (some ⟨b,0,none⟩),.iface (tyT tk) (.pointer (some ⟨tb,0,none⟩)),.int .i64 (-1)] w fun e w'=>e=.returned (.tuple #[])∧∃ a' c',
      St B w0 (pts b T ((cs.set 2 (.bool (eoA n eo te))).set 6 (.slice a' (n+1) c'))::Osl (.slice a' (n+1) c') 266 1 (n+1) (tl++[.iface (tyT tk) (.pointer (some ⟨tb,0,none⟩))])::pts tb T' tcs::r) w':=by
  have q6:w.cell? ⟨b,6,none⟩=some (.slice ta n tc):=by rw [H.cells.1 6,h6]
  have q2:w.cell? ⟨b,2,none⟩=some (.bool eo):=by rw [H.cells.1 2,h2]
  have q2f:=H.cells.2 2
  have qt:w.cell? ⟨tb,1,none⟩=some (.bool te):=by rw [(H.pick 2).cells.1 1,h1]
  have hm:=m_tr_getIsEpsilon hk tb
  generalize tyT tk=TT at hm ⊢
  have hfin:∀ (eo':Bool) (W:World) (l:List HP),St B w0 (pts b T (cs.set 2 (.bool eo'))::l) W→W.cell? ⟨b,6,none⟩=some (.slice ta n tc):=fun eo' W l h=>by
    rw [h.cells.1 6,List.getElem?_set_ne (by decide),h6]
  have Hfin:=Lib.hid hfin
  have HH:=Lib.hid H
  have Hh:=Lib.hid (And.intro h2 h6)
  clear H h1 h2 h6 hfin hk
  by_cases h0:n=0
  · subst h0
    have H1:=Lib.hid (HH.out.setCell (off:=2) (.bool te))
    have e6:=Hfin.out te _ _ H1.out
    have Hb1:Hid (0+1≤maxLen):=Lib.hid (by simp [maxLen])
    have Hb2:Hid ((0+1) * 16≤140737488355328):=Lib.hid (by decide)
    have hA:=((H1.out.alloc (ob 266 [.iface TT (.pointer (some ⟨tb,0,none⟩))])).pick 2).pick 1
    rw [World.size_setCell] at hA
    have HA:=Lib.hid hA
    clear hA
    go_enter Tryz.func128,Tryz.ntmps128
    go_wp2_with (first
      | (go_at_call 320; refine (c320 _ _ _ qt).mono ?_; rintro e w' ⟨rfl,rfl⟩)
      | (at_builtin; go_must (refine wpList_append1_st rfl _ _ rfl sl163' (g:=w.heap.size) (news:=[.iface TT (.pointer (some ⟨tb,0,none⟩))]) HA.out rfl 1 rfl rfl rfl (by simp [Value.oneCell']) Hb1.out Hb2.out ?_)
         intro a5 c5 w5 h5
         have e6':=Hfin.out te _ _ (h5.pick 1)
         have e6f:=(h5.pick 1).cells.2 6
         have H5:=Lib.hid ((h5.pick 1).setCell (off:=6) (.slice a5 (0+1) c5))
         clear h5))
    go_end0
    exact ⟨rfl,a5,c5,by rw [show eoA 0 eo te=te from if_pos rfl]; exact H5.out⟩
  · have hni:((n:Int) == 0)=false:=by rw [beq_eq_false_iff_ne]; omega
    have e6:=q6
    by_cases hb:eo=te
    · subst hb
      have hbn:(binOp .neq 4 (.bool eo) (.bool eo)).run Tryz.prog=fun w=>.ok (.bool false) w:=by funext w; cases eo <;> kernel_rfl
      have hbw:∀ w,(binOp .neq 4 (.bool eo) (.bool eo)).run Tryz.prog w=.ok (.bool false) w:=fun w=>congrFun hbn w
      have hset:cs.set 2 (.bool eo)=cs:=by
        apply List.ext_getElem?
        intro i
        by_cases hi:2=i
        · subst hi; rw [List.getElem?_set_self (List.getElem?_eq_some_iff.1 Hh.out.1).1,Hh.out.1]
        · rw [List.getElem?_set_ne hi]
      have Hn:=Lib.hid (And.intro h0 hset)
      clear hbn h0 hset
      go_enter Tryz.func128,Tryz.ntmps128
      go_wp2_with (first
        | (at_builtin; go_must (refine wpList_append1_st rfl _ _ rfl sl163' (g:=w.heap.size) (news:=[.iface TT (.pointer (some ⟨tb,0,none⟩))]) ((((HH.out.drewN _).alloc (ob 266 [.iface TT (.pointer (some ⟨tb,0,none⟩))])).pick 2).pick 1) rfl 1 rfl rfl rfl (by simp [Value.oneCell']) (by simp only [maxLen]; omega) (by omega) ?_)
           intro a5 c5 w5 h5
           have e6':w5.cell? ⟨b,6,none⟩=some (.slice ta n tc):=by rw [(h5.pick 1).cells.1 6,Hh.out.2]
           have e6f:=(h5.pick 1).cells.2 6
           have H5:=Lib.hid ((h5.pick 1).setCell (off:=6) (.slice a5 (n+1) c5))
           clear h5)
        | (go_quiet (first | (go_at_call 320; exact Calls.quiet_of_same ((c320 _ _ _ (by exact qt)).mono (by rintro e w' ⟨h1,h2⟩; exact ⟨h1,h2.symm⟩))))))
      go_end0
      exact ⟨rfl,a5,c5,by rw [show eoA n eo eo=eo from by unfold eoA; rw [if_neg Hn.out.1,Bool.and_self],Hn.out.2]; exact H5.out⟩
    · have hbn:(binOp .neq 4 (.bool eo) (.bool te)).run Tryz.prog=fun w=>.ok (.bool true) w:=by funext w; cases eo <;> cases te <;> first | exact absurd rfl hb | kernel_rfl
      have hbw:∀ w,(binOp .neq 4 (.bool eo) (.bool te)).run Tryz.prog w=.ok (.bool true) w:=fun w=>congrFun hbn w
      have hand:(eo && te)=false:=by revert hb; cases eo <;> cases te <;> simp
      have Hn:=Lib.hid (And.intro h0 hand)
      have hA:∀ nq,St B w0 (pts w.heap.size 266 [.iface TT (.pointer (some ⟨tb,0,none⟩))]::Osl (.slice ta n tc) 266 1 n tl::pts b T (cs.set 2 (.bool false))::pts tb T' tcs::r) (((w.drewN nq).setCell ⟨b,2,none⟩ (.bool false)).alloc (ob 266 [.iface TT (.pointer (some ⟨tb,0,none⟩))])):=fun nq=>by
        have h:=((((HH.out.drewN nq).setCell (off:=2) (.bool false)).alloc (ob 266 [.iface TT (.pointer (some ⟨tb,0,none⟩))])).pick 2).pick 1
        rw [World.size_setCell] at h
        exact h
      have HA':=Lib.hid hA
      clear hA hbn h0 hb hand
      go_enter Tryz.func128,Tryz.ntmps128
      go_wp2_with (first
        | (at_builtin; go_must (refine wpList_append1_st rfl _ _ rfl sl163' (news:=[.iface TT (.pointer (some ⟨tb,0,none⟩))]) (HA'.out _) rfl 1 rfl rfl rfl (by simp [Value.oneCell']) (by simp only [maxLen]; omega) (by omega) ?_)
           intro a5 c5 w5 h5
           have e6':=Hfin.out false _ _ (h5.pick 1)
           have e6f:=(h5.pick 1).cells.2 6
           have H5:=Lib.hid ((h5.pick 1).setCell (off:=6) (.slice a5 (n+1) c5))
           clear h5)
        | (go_quiet (first | (go_at_call 320; exact Calls.quiet_of_same ((c320 _ _ _ (by exact qt)).mono (by rintro e w' ⟨h1,h2⟩; exact ⟨h1,h2.symm⟩))))))
      go_end0
      exact ⟨rfl,a5,c5,by rw [show eoA n eo te=false from by unfold eoA; rw [if_neg Hn.out.1,Hn.out.2]]; exact H5.out⟩
end Go.Proofs.YtbcngfgemjdllaaGreatDoor
end
section
namespace Go.Proofs.YtbcngfgemjdllaaGreatDoor
open Go.RowKit Go.Own
variable {B:Nat} {w0 w:World} {r:List HP}
def trT (tk:Nat):TypeId:=match tk with | 1=>403 | 2=>470 | _=>473
structure TrM (d:Lx.Ed) (tgt:Value) (tk:Nat) (cs:List Value):Prop where
  kd:d.kind=(tk:Int)
  ok:TOk tk
  c0:cs[0]? = some tgt
  c1:cs[1]? = some (.bool (tk == 1))
  c4:cs[4]? = some (.int .i64 (tk:Int))
  s2:tk=2→cs[5]? = some (.int .i64 d.a1)∧cs[6]? = some (.int .i64 d.a2)
  s5:tk=5→cs[2]? = some (.int .i64 d.a1)
set_option maxRecDepth 100000 in
set_option maxHeartbeats 4000000 in
theorem c125 {Z:ZC} {A:AtC} {pos:Nat} {L:List LS} {sa:Option Addr} {sc:Nat} {d:Lx.Ed} {t:LS} {src:Int} (ht:L[d.to]? = some t) (hk:d.kind=1∨d.kind=2∨d.kind=5) (hb:0≤d.a1∧d.a1<1000000∧0≤d.a2∧d.a2<1000000) (H:St B w0 (zwL Z pos A sa sc L++r) w) :
    Calls Tryz.prog 125 #[.pointer (some ⟨Z.bd,0,none⟩),.pointer (some ⟨Z.at_,0,none⟩),.int .i64 d.kind,.int .i64 src,.int .i64 (d.to:Int),.int .i64 d.a1,.int .i64 d.a2,.int .i64 0,.slice none 0 0] w
      fun e w'=>∃ tk tb cs,e=.returned (.iface (tyT tk) (.pointer (some ⟨tb,0,none⟩)))∧TrM d (ifL t) tk cs∧St B w0 (pts tb (trT tk) cs::(zwL Z pos A sa sc L++r)) w':=by
  have q9:w.cell? ⟨Z.at_,9,none⟩=some (.slice sa L.length sc):=(H.pick 1).cells.1 9
  have hl:d.to<L.length:=(List.getElem?_eq_some_iff.1 ht).1
  obtain ⟨gs,hgs,hcs⟩:=(RowAt.of (H.pick 2)) (by intro h; have:=congrArg List.length h; rw [List.length_map] at this; simp at this; rw [this] at hl; simp at hl)
  subst hgs
  have xs1:w.cell? ⟨gs,d.to,none⟩=some (.iface (ty t.q.k) (.pointer (some ⟨t.b,0,none⟩))):=hcs d.to _ (by rw [List.getElem?_map,ht]; rfl)
  have hk0:(0:Int)≤(d.to:Int):=Int.natCast_nonneg _
  have hk1:(d.to:Int)<(L.length:Int):=by omega
  have HH:=Lib.hid H
  clear hcs H ht
  obtain ⟨dsrc,dto,dk,da1,da2⟩:=d
  simp only at hk hb hk0 hk1 xs1 ⊢
  rcases hk with rfl | rfl | rfl
  · have H1:=Lib.hid (c127 (k:=t.q.k) (b:=t.b) HH.out)
    go_enter Tryz.func125,Tryz.ntmps125
    go_wp2_with (first
      | (go_at_call 127; refine H1.out.mono ?_; rintro e w1 ⟨tb,rfl,h1⟩
         have H2:=Lib.hid h1
         clear h1))
    go_ret
    exact ⟨1,tb,_,rfl,⟨rfl,⟨Or.inl rfl⟩,rfl,rfl,rfl,fun h=>absurd h (by decide),fun h=>absurd h (by decide)⟩,H2.out⟩
  · have H1:=Lib.hid (c172 (k:=t.q.k) (b:=t.b) (x:=da1) (y:=da2) ⟨hb.2.2.1,hb.2.2.2⟩ HH.out)
    go_enter Tryz.func125,Tryz.ntmps125
    go_wp2_with (first
      | (go_at_call 172; refine H1.out.mono ?_; rintro e w1 ⟨tb,s,rfl,h1⟩
         have H2:=Lib.hid h1
         clear h1))
    go_ret
    exact ⟨2,tb,_,rfl,⟨rfl,⟨Or.inr (Or.inl rfl)⟩,rfl,rfl,rfl,fun _=>⟨rfl,rfl⟩,fun h=>absurd h (by decide)⟩,H2.out⟩
  · have H1:=Lib.hid (c176 (k:=t.q.k) (b:=t.b) (y:=da1) ⟨hb.1,hb.2.1⟩ HH.out)
    go_enter Tryz.func125,Tryz.ntmps125
    go_wp2_with (first
      | (go_at_call 176; refine H1.out.mono ?_; rintro e w1 ⟨tb,s,rfl,h1⟩
         have H2:=Lib.hid h1
         clear h1))
    go_ret
    exact ⟨5,tb,_,rfl,⟨rfl,⟨Or.inr (Or.inr rfl)⟩,rfl,rfl,rfl,fun h=>absurd h (by decide),fun _=>rfl⟩,H2.out⟩
end Go.Proofs.YtbcngfgemjdllaaGreatDoor
end
