/- Part 32: Z5. -/
import Derived.Test.YtbcngfgemjdllaaGreatDoorB31
set_option linter.unusedVariables false
set_option linter.unusedSimpArgs false
namespace Go.Proofs.YtbcngfgemjdllaaGreatDoor
open Go.RowKit Go.Own
variable {B:Nat} {w0 w:World} {r:List HP}
structure RdZ (Z:ZC) (B:Nat) (w0:World) (xs:List Int):Prop where
  hB:B=w0.heap.size
  row:RowAt w0 Z.da (i32 xs)
  len:Z.dn=xs.length
  lt:Z.dn<1000000000
  rng:∀ x ∈ xs,-2147483648≤x∧x<2147483648
theorem RdZ.c117 {Z:ZC} {xs ys:List Int} {y:Int} {pos:Nat} (h:RdZ Z B w0 xs) (hd:xs.drop pos=y::ys) (H:St B w0 (pts Z.bd 251 (dzC Z.bo Z.da Z.dn Z.dc pos)::r) w) :
    Calls Tryz.prog 117 #[.pointer (some ⟨Z.bd,0,none⟩)] w fun e w'=>e=.returned (.int .i64 y)∧St B w0 (pts Z.bd 251 (dzC Z.bo Z.da Z.dn Z.dc (pos+1))::r) w':=by
  obtain ⟨h1,_⟩:=rd_head hd
  exact Go.Proofs.YtbcngfgemjdllaaGreatDoor.c117 h.hB h.row h.len h1 h.lt (h.rng _ (List.mem_of_getElem? h1)) H
def R1 (Z:ZC) (B:Nat) (w0:World) (A:AtC) (xs tl:List Int) (sts:List (Nat × Nat × Nat)) (r:List HP) (v5 v6 v7:Value) (wr:World):Prop :=
  ∃ (k:Nat) (L:List LS) (pos:Nat) (sa a5 a6:Option Addr) (sc c5 c6:Nat),k≤sts.length∧v7=.int .i64 (k:Int)∧v5=.slice a5 (L.filter is12).length c5∧v6=.slice a6 (L.filter isB).length c6∧LOf L (sts.take k)∧xs.drop pos=(sts.drop k).flatMap seS++tl ∧
    St B w0 (Osl (.slice a5 (L.filter is12).length c5) 292 2 (L.filter is12).length ((L.filter is12).flatMap f5)::Osl (.slice a6 (L.filter isB).length c6) 297 2 (L.filter isB).length ((L.filter isB).flatMap f6)::(zwL Z pos A sa sc L++r)) wr
def R2 (Z:ZC) (B:Nat) (w0:World) (A:AtC) (L:List LS) (pos:Nat) (sa a5 a6:Option Addr) (sc c5 c6:Nat) (r:List HP) (i:Value) (wr:World):Prop :=
  ∃ j:Nat,j≤(L.filter is12).length∧i=.int .i64 (j:Int) ∧
    St B w0 (Osl (.slice a5 (L.filter is12).length c5) 292 2 (L.filter is12).length ((L.filter is12).flatMap f5)::Osl (.slice a6 (L.filter isB).length c6) 297 2 (L.filter isB).length ((L.filter isB).flatMap f6)::(zwL Z pos A sa sc (L.map (gj (L.filter is12) (lbS L) j))++r)) wr
def R0 (P:World→Prop) (i:Value) (w:World):Prop:=i=.int .i64 0∧P w
def R3 (Z:ZC) (B:Nat) (w0:World) (A:AtC) (M:List LS) (pos:Nat) (sa a6:Option Addr) (sc c6:Nat) (r:List HP) (i:Value) (wr:World):Prop :=
  ∃ j:Nat,j≤(M.filter isB).length∧i=.int .i64 (j:Int) ∧
    St B w0 (Osl (.slice a6 (M.filter isB).length c6) 297 2 (M.filter isB).length ((M.filter isB).flatMap f6)::(zwL Z pos A sa sc (M.map (gj (M.filter isB) (enS M) j))++r)) wr
theorem as_8 {k:Nat} (h:k=8) (p:Value) (w:World):(Instr.typeAssert (.iface (ty k) p) 169 301 false).run Tryz.prog w=.ok p w:=by subst h; exact run_assert_plain (e:=321) (by kernel_rfl)
set_option maxRecDepth 100000 in
set_option maxHeartbeats 4000000 in
theorem c83 {Z : ZC} {A : AtC} {xs rest : List Int} {pos : Nat} {sts : List (Nat × Nat × Nat)} (hR : RdZ Z B w0 xs) (hx : xs.drop pos = (sts.length : Int) :: (sts.flatMap seS ++ 0 :: 0 :: rest)) (hN : sts.length < 1000000)
    (hs:∀ x ∈ sts,x.1≤12∧1≤x.1) (har:∀ x ∈ sts,(x.1=12→x.2.2<sts.length)∧(BOk x.1→∃ s,sts[x.2.2]? = some s∧s.1=8)) (H:St B w0 (zwL Z pos A none 0 []++r) w) :
    Calls Tryz.prog 83 #[.pointer (some ⟨Z.bd,0,none⟩),.pointer (some ⟨Z.at_,0,none⟩)] w fun e w'=>e=.returned (.tuple #[])∧∃ (L:List LS) (pos':Nat) (sa:Option Addr) (sc:Nat),LOf L sts∧xs.drop pos'=rest∧St B w0 (zwL Z pos' A sa sc (finS L)++r) w':=by
  obtain ⟨zs5,hz5,_,hm5⟩:=run_mk sl286 (l:=0) (c:=sts.length) (Nat.zero_le _) hN (by omega)
  obtain ⟨zs6,hz6,_,hm6⟩:=run_mk sl287 (l:=0) (c:=sts.length) (Nat.zero_le _) hN (by omega)
  obtain ⟨zs9,hz9,_,hm9⟩:=run_mk sl112 (l:=0) (c:=sts.length) (Nat.zero_le _) hN (by omega)
  simp only [Int.natCast_zero] at hm5 hm6 hm9
  have HR:=Lib.hid hR
  obtain ⟨_,hx2⟩:=rd_head hx
  have HX:=Lib.hid hx2
  have Har:=Lib.hid har
  have Hs:=Lib.hid hs
  have H1:=Lib.hid (hR.c117 hx H)
  have Hz:=Lib.hid (And.intro hz5 (And.intro hz6 hz9))
  clear hR hx H hx2 hs har hz5 hz6 hz9
  go_enter Tryz.func83,Tryz.ntmps83
  go_wp2_with fail
  go_at_call 117
  refine H1.out.mono ?_
  rintro e w1 ⟨rfl,h1⟩
  have H2:=((h1.alloc (ob 292 zs5)).alloc (ob 297 zs6)).alloc (ob 169 zs9)
  rw [show (w1.alloc (ob 292 zs5)).heap.size=w1.heap.size+1 from Array.size_push _] at H2
  rw [show ((w1.alloc (ob 292 zs5)).alloc (ob 297 zs6)).heap.size=w1.heap.size+1+1 from by rw [show ((w1.alloc (ob 292 zs5)).alloc (ob 297 zs6)).heap.size=(w1.alloc (ob 292 zs5)).heap.size+1 from Array.size_push _,show (w1.alloc (ob 292 zs5)).heap.size=w1.heap.size+1 from Array.size_push _]] at H2
  have q9:=(H2.pick 4).cells.1 9
  have q9f:=(H2.pick 4).cells.2 9
  have HH:=Lib.hid H2
  clear H1 h1 H2
  go_wp2_with fail
  go_loopw [5,6,7] (R1 Z B w0 A xs (0::0::rest) sts r) (fun _ _ i _=>sts.length - (intOf i).toNat)
  case atStart =>
    have hml:sts.length≤maxLen:=by simp only [maxLen]; omega
    have K3:=(HH.out.pick 4).setCell (off:=9) (.slice (some ⟨w1.heap.size+1+1,0,none⟩) 0 sts.length)
    have K4:=St.ownMade (sz:=1) (cap:=sts.length) (K3.pick 1) 0 (Nat.zero_le _) Hz.out.2.2 hml
    have K5:=St.ownMade (sz:=2) (cap:=sts.length) (K4.pick 2) 0 (Nat.zero_le _) Hz.out.2.1 hml
    have K6:=St.ownMade (sz:=2) (cap:=sts.length) (K5.pick 3) 0 (Nat.zero_le _) Hz.out.1 hml
    have K7:=(((((K6.pick 5).drop.pick 2).pick 3).pick 4).pick 4).pick 4
    exact ⟨0,[],pos+1,some ⟨w1.heap.size+1+1,0,none⟩,some ⟨w1.heap.size,0,none⟩,some ⟨w1.heap.size+1,0,none⟩,sts.length,sts.length,sts.length,Nat.zero_le _,rfl,rfl,rfl,by rw [List.take_zero]; exact LOf.nil,by rw [List.drop_zero]; exact HX.out,K7⟩
  case round =>
    clear HH q9 q9f hm5 hm6 hm9
    obtain ⟨k,L,pos1,sa,a5,a6,sc,c5,c6,hk,rfl,rfl,rfl,hL,hd,H1⟩:=hrel
    by_cases hlt:k<sts.length
    · have hk0 : (0 : Int) ≤ (k : Int) := Int.natCast_nonneg _
      have hk1:(k:Int)<(sts.length:Int):=by omega
      have Hw:=Lib.hid (wrapS hlt (by omega))
      have hsx:=Hs.out _ (List.getElem_mem hlt)
      have htk:sts.take k++[sts[k]]=sts.take (k+1):=by rw [List.take_add_one,List.getElem?_eq_getElem hlt]; rfl
      rw [List.drop_eq_getElem_cons hlt,List.flatMap_cons] at hd
      generalize sts[k]=s at hd hsx htk
      obtain ⟨kk,ru,ar⟩:=s
      have hlL:L.length=k:=by rw [hL.len,List.length_take]; omega
      have hLp:=hL.push
      have hKO:KOk kk:=⟨hsx.2,hsx.1⟩
      have hne0:((kk:Int) == 0)=false:=by rw [beq_eq_false_iff_ne]; have:=hsx.2; simp only at this; omega
      have hll5:(L.filter is12).length≤L.length:=List.length_filter_le _ _
      have hll6:(L.filter isB).length≤L.length:=List.length_filter_le _ _
      obtain ⟨op,hop⟩:∃ op,op=(if kk=12∨kk=3∨kk=4∨kk=5 then [(ar:Int)] else []):=⟨_,rfl⟩
      have hd1:xs.drop pos1=(kk:Int)::(ru:Int)::(op++((sts.drop (k+1)).flatMap seS++0::0::rest)):=by
        rw [hd,hop]; simp [seS]
      obtain ⟨_,hd2⟩:=rd_head hd1
      obtain ⟨_,hd3⟩:=rd_head hd2
      have Hd1:=Lib.hid (And.intro hd1 (And.intro hd2 (And.intro hd3 (And.intro hop (And.intro htk (And.intro hLp hlL))))))
      have H1':=Lib.hid (HR.out.c117 hd1 (H1.pick 2))
      clear hd hd1 hd2 hd3 H1 hop htk hL hLp hlL hsx
      go_wp2_with fail
      go_at_call 117
      refine H1'.out.mono ?_
      rintro e w2 ⟨rfl,h2⟩
      have H2':=Lib.hid (HR.out.c117 Hd1.out.2.1 h2)
      clear h2 H1'
      go_wp2_with fail
      go_at_call 117
      refine H2'.out.mono ?_
      rintro e w3 ⟨rfl,h3⟩
      have H3':=Lib.hid (c121 (bd:=Z.bd) (ru:=(ru:Int)) hKO h3)
      clear h3 H2'
      go_wp2_with fail
      go_at_call 121
      refine H3'.out.mono ?_
      rintro e w4 ⟨rfl,h4⟩
      clear H3'
      have hmsq:∀ (P:HP) (l:List HP),(P::l).Perm (P::l):=fun _ _=>List.Perm.refl _
      clear hmsq
      by_cases h12:kk=12
      · have hass:∀ (p:Value) (w:World),(Instr.typeAssert (.iface (ty kk) p) 169 290 false).run Tryz.prog w=.ok p w:=by subst h12; exact as_12
        have hcmp:((kk:Int) == 12)=true:=by rw [h12]; rfl
        have hd4:xs.drop (pos1+1+1)=(ar:Int)::((sts.drop (k+1)).flatMap seS++0::0::rest):=by
          have h:=Hd1.out.2.2.1
          rw [Hd1.out.2.2.2.1,if_pos (Or.inl h12)] at h
          exact h
        have hf5:(is12 (LS.mk w3.heap.size L.length ar (sq0 kk (ru:Int))))=true:=by simp [is12,sq0,h12]
        have hf6:(isB (LS.mk w3.heap.size L.length ar (sq0 kk (ru:Int))))=false:=by simp [isB,sq0,h12]
        have Hd4:=Lib.hid hd4
        have Hf:=Lib.hid (And.intro hf5 hf6)
        have H4':=Lib.hid (HR.out.c117 hd4 (h4.pick 1))
        have H12:=Lib.hid h12
        clear h4 hd4 hf5 hf6 h12
        go_wp2_with fail
        go_at_call 117
        refine H4'.out.mono ?_
        rintro e w5 ⟨rfl,h5⟩
        have HA:=Lib.hid (((h5.alloc (ob 292 [.pointer (some ⟨w3.heap.size,0,none⟩),.int .i64 (ar:Int)])).pick 3).pick 1)
        clear h5 H4'
        go_wp2_with (first
          | (at_builtin; go_must (refine wpList_append1_st rfl _ _ rfl sl286 (g:=w5.heap.size) (news:=[.pointer (some ⟨w3.heap.size,0,none⟩),.int .i64 (ar:Int)]) HA.out rfl 1 rfl rfl rfl (by simp [Value.oneCell']) (by simp only [maxLen]; have:=Hd1.out.2.2.2.2.2.2; omega) (by have:=Hd1.out.2.2.2.2.2.2; omega) ?_)
             intro a7 c7 w6 h6
             have H6:=Lib.hid (((h6.pick 5).pick 5).pick 4)
             clear h6))
        go_wp2_with fail
        go_at_call 120
        refine (c120 (at_:=Z.at_) (a:=sa) (c:=sc) (n:=L.length) (q:=sq0 kk (ru:Int)) (b:=w3.heap.size) (AC:=A.cells (.slice sa L.length sc)) (xs:=L.map ifL) hKO (by have:=Hd1.out.2.2.2.2.2.2; omega) rfl H6.out).mono ?_
        rintro e w7 ⟨rfl,a9,c9,h7⟩
        have h8:=St.pushMap (f:=sqL Z.at_) (L:=L) (a:=(LS.mk w3.heap.size L.length ar (sq0 kk (ru:Int)))) ((h7.pick 6).pick 1)
        have H9:=Lib.hid (((((h8.pick 2).pick 2).pick 4).pick 5).pick 5)
        clear h7 h8 H6
        go_wp2_with fail
        first | rw [Hw.out] | rw [show ((k:Int)+1)=((k+1:Nat):Int) from by omega]
        have e5:(L++[(LS.mk w3.heap.size L.length ar (sq0 kk (ru:Int)))]).filter is12=L.filter is12++[(LS.mk w3.heap.size L.length ar (sq0 kk (ru:Int)))]:=by rw [filtP_push,Hf.out.1]; rfl
        have e6:(L++[(LS.mk w3.heap.size L.length ar (sq0 kk (ru:Int)))]).filter isB=L.filter isB:=by rw [filtP_push,Hf.out.2]; exact List.append_nil _
        have e7:(L++[(LS.mk w3.heap.size L.length ar (sq0 kk (ru:Int)))]).map ifL=L.map ifL++[ifV kk w3.heap.size]:=by simp [ifL,sq0]
        have e8:(L++[(LS.mk w3.heap.size L.length ar (sq0 kk (ru:Int)))]).length=L.length+1:=by simp
        refine ⟨⟨k+1,L++[(LS.mk w3.heap.size L.length ar (sq0 kk (ru:Int)))],pos1+1+1+1,a9,a7,a6,c9,c7,c6,hlt,rfl,by rw [e5]; simp,by rw [e6],by rw [← Hd1.out.2.2.2.2.1]; exact Hd1.out.2.2.2.2.2.1 w3.heap.size (kk,ru,ar),(rd_head Hd4.out).2,?_⟩,measS hlt⟩
        rw [e5,e6]
        unfold zwL
        rw [e7,e8,List.length_append,List.flatMap_append]
        exact H9.out
      · by_cases hB:BOk kk
        · have hass:∀ (p:Value) (w:World),(Instr.typeAssert (.iface (ty kk) p) 169 294 true).run Tryz.prog w=.ok (.tuple #[.iface (ty kk) p,.bool true]) w:=as_blk_hit hB
          have hcmp:((kk:Int) == 12)=false:=by rw [beq_eq_false_iff_ne]; omega
          have hd4:xs.drop (pos1+1+1)=(ar:Int)::((sts.drop (k+1)).flatMap seS++0::0::rest):=by
            have h:=Hd1.out.2.2.1
            rw [Hd1.out.2.2.2.1,if_pos (Or.inr hB.is)] at h
            exact h
          have hf5:(is12 (LS.mk w3.heap.size L.length ar (sq0 kk (ru:Int))))=false:=by simp [is12,sq0,h12]
          have hf6:(isB (LS.mk w3.heap.size L.length ar (sq0 kk (ru:Int))))=true:=by rcases hB.is with h | h | h <;> simp [isB,sq0,h]
          have Hd4:=Lib.hid hd4
          have Hf:=Lib.hid (And.intro hf5 hf6)
          have H4':=Lib.hid (HR.out.c117 hd4 (h4.pick 1))
          clear h4 hd4 hf5 hf6 h12 hB
          go_wp2_with fail
          go_at_call 117
          refine H4'.out.mono ?_
          rintro e w5 ⟨rfl,h5⟩
          have HA:=Lib.hid (((h5.alloc (ob 297 [.iface (ty kk) (.pointer (some ⟨w3.heap.size,0,none⟩)),.int .i64 (ar:Int)])).pick 4).pick 1)
          clear h5 H4'
          go_wp2_with (first
            | (at_builtin; go_must (refine wpList_append1_st rfl _ _ rfl sl287 (g:=w5.heap.size) (news:=[.iface (ty kk) (.pointer (some ⟨w3.heap.size,0,none⟩)),.int .i64 (ar:Int)]) HA.out rfl 1 rfl rfl rfl (by simp [Value.oneCell']) (by simp only [maxLen]; have:=Hd1.out.2.2.2.2.2.2; omega) (by have:=Hd1.out.2.2.2.2.2.2; omega) ?_)
               intro a7 c7 w6 h6
               have H6:=Lib.hid (((h6.pick 5).pick 5).pick 4)
               clear h6))
          go_wp2_with fail
          go_at_call 120
          refine (c120 (at_:=Z.at_) (a:=sa) (c:=sc) (n:=L.length) (q:=sq0 kk (ru:Int)) (b:=w3.heap.size) (AC:=A.cells (.slice sa L.length sc)) (xs:=L.map ifL) hKO (by have:=Hd1.out.2.2.2.2.2.2; omega) rfl H6.out).mono ?_
          rintro e w7 ⟨rfl,a9,c9,h7⟩
          have h8:=St.pushMap (f:=sqL Z.at_) (L:=L) (a:=(LS.mk w3.heap.size L.length ar (sq0 kk (ru:Int)))) ((h7.pick 6).pick 1)
          have H9:=Lib.hid (((((h8.pick 2).pick 2).pick 4).pick 4).pick 5)
          clear h7 h8 H6
          go_wp2_with fail
          first | rw [Hw.out] | rw [show ((k:Int)+1)=((k+1:Nat):Int) from by omega]
          have e5:(L++[(LS.mk w3.heap.size L.length ar (sq0 kk (ru:Int)))]).filter is12=L.filter is12:=by rw [filtP_push,Hf.out.1]; exact List.append_nil _
          have e6:(L++[(LS.mk w3.heap.size L.length ar (sq0 kk (ru:Int)))]).filter isB=L.filter isB++[(LS.mk w3.heap.size L.length ar (sq0 kk (ru:Int)))]:=by rw [filtP_push,Hf.out.2]; rfl
          have e7:(L++[(LS.mk w3.heap.size L.length ar (sq0 kk (ru:Int)))]).map ifL=L.map ifL++[ifV kk w3.heap.size]:=by simp [ifL,sq0]
          have e8:(L++[(LS.mk w3.heap.size L.length ar (sq0 kk (ru:Int)))]).length=L.length+1:=by simp
          refine ⟨⟨k+1,L++[(LS.mk w3.heap.size L.length ar (sq0 kk (ru:Int)))],pos1+1+1+1,a9,a5,a7,c9,c5,c7,hlt,rfl,by rw [e5],by rw [e6]; simp,by rw [← Hd1.out.2.2.2.2.1]; exact Hd1.out.2.2.2.2.2.1 w3.heap.size (kk,ru,ar),(rd_head Hd4.out).2,?_⟩,measS hlt⟩
          rw [e5,e6]
          unfold zwL
          rw [e7,e8,List.length_append,List.flatMap_append]
          exact H9.out
        · have hNB:NBk kk:=⟨hKO,fun h=>hB ⟨Or.inl h⟩,fun h=>hB ⟨Or.inr (Or.inl h)⟩,fun h=>hB ⟨Or.inr (Or.inr h)⟩⟩
          have hass:∀ (p:Value) (w:World),(Instr.typeAssert (.iface (ty kk) p) 169 294 true).run Tryz.prog w=.ok (.tuple #[.nilIface,.bool false]) w:=as_blk_miss hNB
          have hcmp:((kk:Int) == 12)=false:=by rw [beq_eq_false_iff_ne]; omega
          have hd4:xs.drop (pos1+1+1)=(sts.drop (k+1)).flatMap seS++0::0::rest:=by
            have h:=Hd1.out.2.2.1
            rw [Hd1.out.2.2.2.1,if_neg (by rintro (h | h); exact h12 h; exact hB ⟨h⟩)] at h
            exact h
          have hf5:(is12 (LS.mk w3.heap.size L.length ar (sq0 kk (ru:Int))))=false:=by simp [is12,sq0,h12]
          have hf6:(isB (LS.mk w3.heap.size L.length ar (sq0 kk (ru:Int))))=false:=by have h3:=hNB.n3; have h4:=hNB.n4; have h5:=hNB.n5; simp [isB,sq0,h3,h4,h5]
          have Hd4:=Lib.hid hd4
          have Hf:=Lib.hid (And.intro hf5 hf6)
          have H6:=Lib.hid (((h4.pick 5).pick 5).pick 2)
          clear h4 hd4 hf5 hf6 h12 hB
          go_wp2_with fail
          go_at_call 120
          refine (c120 (at_:=Z.at_) (a:=sa) (c:=sc) (n:=L.length) (q:=sq0 kk (ru:Int)) (b:=w3.heap.size) (AC:=A.cells (.slice sa L.length sc)) (xs:=L.map ifL) hKO (by have:=Hd1.out.2.2.2.2.2.2; omega) rfl H6.out).mono ?_
          rintro e w7 ⟨rfl,a9,c9,h7⟩
          have h8:=St.pushMap (f:=sqL Z.at_) (L:=L) (a:=(LS.mk w3.heap.size L.length ar (sq0 kk (ru:Int)))) ((h7.pick 6).pick 1)
          have H9:=Lib.hid (((((h8.pick 2).pick 2).pick 3).pick 5).pick 5)
          clear h7 h8 H6
          go_wp2_with fail
          first | rw [Hw.out] | rw [show ((k:Int)+1)=((k+1:Nat):Int) from by omega]
          have e5:(L++[(LS.mk w3.heap.size L.length ar (sq0 kk (ru:Int)))]).filter is12=L.filter is12:=by rw [filtP_push,Hf.out.1]; exact List.append_nil _
          have e6:(L++[(LS.mk w3.heap.size L.length ar (sq0 kk (ru:Int)))]).filter isB=L.filter isB:=by rw [filtP_push,Hf.out.2]; exact List.append_nil _
          have e7:(L++[(LS.mk w3.heap.size L.length ar (sq0 kk (ru:Int)))]).map ifL=L.map ifL++[ifV kk w3.heap.size]:=by simp [ifL,sq0]
          have e8:(L++[(LS.mk w3.heap.size L.length ar (sq0 kk (ru:Int)))]).length=L.length+1:=by simp
          refine ⟨⟨k+1,L++[(LS.mk w3.heap.size L.length ar (sq0 kk (ru:Int)))],pos1+1+1,a9,a5,a6,c9,c5,c6,hlt,rfl,by rw [e5],by rw [e6],by rw [← Hd1.out.2.2.2.2.1]; exact Hd1.out.2.2.2.2.2.1 w3.heap.size (kk,ru,ar),Hd4.out,?_⟩,measS hlt⟩
          rw [e5,e6]
          unfold zwL
          rw [e7,e8]
          exact H9.out
    · have hk1 : ¬ (k : Int) < (sts.length : Int) := by omega
      have hkl:k=sts.length:=by omega
      subst hkl
      rw [List.take_length] at hL
      rw [List.drop_length,List.flatMap_nil,List.nil_append] at hd
      have hll5:(L.filter is12).length≤L.length:=List.length_filter_le _ _
      have hll6:(L.filter isB).length≤L.length:=List.length_filter_le _ _
      have hlL:L.length<1000000:=by rw [hL.len]; exact hN
      have HL:=Lib.hid hL
      have Hd:=Lib.hid hd
      have HH:=Lib.hid H1
      clear H1 hL hd hk
      go_wp2_with fail
      go_loopw [83] (R2 Z B w0 A L pos1 sa a5 a6 sc c5 c6 r) (fun i _=>(L.filter is12).length - (intOf i).toNat)
      case atStart=>exact ⟨0,Nat.zero_le _,rfl,by rw [gj_zero]; exact HH.out⟩
      case round =>
        clear HH
        obtain ⟨j,hj,rfl,H1⟩:=hrel
        rw [zw_map (gj_if (g:=lbS L) fun _=>rfl)] at H1
        by_cases hlt:j<(L.filter is12).length
        · obtain ⟨y,hy⟩:∃ y,(L.filter is12)[j]? = some y:=⟨_,List.getElem?_eq_getElem hlt⟩
          obtain ⟨s1,s2,s3,s4⟩:=gj_step (g:=lbS L) HL.out.num hy
          have hk12:y.q.k=12:=by simpa [is12] using s2
          have hyL:∃ t,L[y.ar]? = some t:=by
            obtain ⟨hi,hi'⟩:=List.getElem?_eq_some_iff.1 s1
            have hi2:y.i<sts.length:=by rw [← HL.out.len]; exact hi
            obtain ⟨_,q2,q3⟩:=HL.out.at_ y.i y _ s1 (List.getElem?_eq_getElem hi2)
            have:=(Har.out _ (List.getElem_mem hi2)).1 (by rw [q3] at hk12; exact hk12)
            rw [← q2,← HL.out.len] at this
            exact ⟨_,List.getElem?_eq_getElem this⟩
          obtain ⟨t,ht⟩:=hyL
          have hlk:lk L y.ar=ifL t:=by unfold lk; rw [ht]
          obtain ⟨g5,hg5,hc5⟩:=(RowAt.of H1).get (f:=f5) (n:=2) (fun _=>rfl) (by omega) hy
          subst hg5
          have e0:wr.cell? ⟨g5,j * 2,none⟩=some (.pointer (some ⟨y.b,0,none⟩)):=hc5 0 _ rfl
          have e1:wr.cell? ⟨g5,j * 2+1,none⟩=some (.int .i64 (y.ar:Int)):=hc5 1 _ rfl
          have hk0:(0:Int)≤(j:Int):=Int.natCast_nonneg _
          have hk1:(j:Int)<((L.filter is12).length:Int):=by omega
          have Hw:=Lib.hid (wrapS hlt (by omega))
          have HA:=H1.alloc (ob 292 [.pointer (some ⟨y.b,0,none⟩),.int .i64 (y.ar:Int)])
          have Hs:=Lib.hid (And.intro s3 (And.intro s4 (And.intro hk12 (And.intro ht hlk))))
          clear H1 s1 s2 s3 s4 hk12 hlk hc5 hy
          go_wp2_with fail
          obtain ⟨W,hW⟩:∃ W,W=wr.alloc (.cells #[.pointer (some ⟨y.b,0,none⟩),.int .i64 (y.ar:Int)] 292):=⟨_,rfl⟩
          rw [show wr.alloc (ob 292 [.pointer (some ⟨y.b,0,none⟩),.int .i64 (y.ar:Int)])=W from hW.symm] at HA
          rw [← hW]
          clear hW e0 e1
          have x0:W.cell? ⟨wr.heap.size,0,none⟩=some (.pointer (some ⟨y.b,0,none⟩)):=HA.cells.1 0
          have x1:W.cell? ⟨wr.heap.size,1,none⟩=some (.int .i64 (y.ar:Int)):=HA.cells.1 1
          have x9:W.cell? ⟨Z.at_,9,none⟩=some (.slice sa L.length sc):=(HA.pick 4).cells.1 9
          obtain ⟨gs,hgs,hcs⟩:=(RowAt.of (HA.pick 5)) (by intro h; have:=congrArg List.length h; rw [List.length_map] at this; have h2:=(List.getElem?_eq_some_iff.1 ht).1; simp at this; rw [this] at h2; simp at h2)
          subst hgs
          have xs1:W.cell? ⟨gs,y.ar,none⟩=some (.iface (ty t.q.k) (.pointer (some ⟨t.b,0,none⟩))):=hcs y.ar _ (by rw [List.getElem?_map,ht]; rfl)
          have hb0:(0:Int)≤(y.ar:Int):=Int.natCast_nonneg _
          have hb1:(y.ar:Int)<(L.length:Int):=by have:=(List.getElem?_eq_some_iff.1 ht).1; omega
          have K2:=(show St B w0 (star (pts y.b (sT y.q.k) (y.q.cells (bP Z.at_) (y.i:Int))) (Osl (.slice y.q.ta y.q.tl.length y.q.tc) 266 1 y.q.tl.length y.q.tl)::_) W from (HA.pick 6).takeMap (f:=sqL Z.at_) Hs.out.1).split
          have x7:W.cell? ⟨y.b,7,none⟩=some y.q.lb:=by rw [K2.cells.1 7,cells7_12 Hs.out.2.2.1]
          have x7f:=K2.cells.2 7
          have d0:W.drew.cell? ⟨wr.heap.size,0,none⟩=some (.pointer (some ⟨y.b,0,none⟩)):=x0
          have d1:W.drew.cell? ⟨wr.heap.size,1,none⟩=some (.int .i64 (y.ar:Int)):=x1
          have d9:W.drew.cell? ⟨Z.at_,9,none⟩=some (.slice (some ⟨gs,0,none⟩) L.length sc):=x9
          have ds:W.drew.cell? ⟨gs,y.ar,none⟩=some (.iface (ty t.q.k) (.pointer (some ⟨t.b,0,none⟩))):=xs1
          have d7:W.drew.cell? ⟨y.b,7,none⟩=some y.q.lb:=x7
          have d7f:W.drew.frozen? ⟨y.b,7,none⟩=false:=x7f
          have K3:=K2.setCell (off:=7) (ifL t)
          rw [set7_12 Hs.out.2.2.1] at K3
          have K4:=St.putMap (f:=sqL Z.at_) (L:=L.map (gj (L.filter is12) (lbS L) j)) (a:=lbS L y) (i:=y.i) (by unfold sqL lbS; rw [Hs.out.2.2.2.2]; exact K3.join) (by have:=(List.getElem?_eq_some_iff.1 Hs.out.1).1; exact this)
          rw [Hs.out.2.1] at K4
          have K5:=Lib.hid ((((((K4.pick 1).drop.pick 5).pick 5).pick 5).pick 5).pick 5)
          clear K2 K3 K4 HA hcs ht
          go_region
          all_goals
            have K6:=Lib.hid K5.out.drew
            rw [show W.setCell ⟨y.b,7,none⟩ (.iface (ty t.q.k) (.pointer (some ⟨t.b,0,none⟩)))=W.setCell ⟨y.b,7,none⟩ (ifL t) from rfl]
            generalize (W.setCell ⟨y.b,7,none⟩ (ifL t)).drew=w8 at K6 ⊢
            go_wp2_with fail
            first | rw [Hw.out] | rw [show ((j:Int)+1)=((j+1:Nat):Int) from by omega]
            exact ⟨⟨j+1,hlt,rfl,by rw [zw_map (gj_if (g:=lbS L) fun _=>rfl)]; exact K6.out⟩,measS hlt⟩
        · have hk1 : ¬ (j : Int) < ((L.filter is12).length : Int) := by omega
          have hkl:j=(L.filter is12).length:=by omega
          subst hkl
          have hL2:L.map (gj (L.filter is12) (lbS L) (L.filter is12).length)=L.map fun x=>if is12 x then lbS L x else x:=gj_end HL.out.num
          have hF6:(L.map fun x=>if is12 x then lbS L x else x).filter isB=L.filter isB:=filt_map (fun x=>by split <;> rfl) (fun x hx=>by
            have:is12 x=false:=by revert hx; simp only [isB,is12,Bool.or_eq_true,beq_iff_eq]; intro hx; rw [beq_eq_false_iff_ne]; omega
            rw [this]; rfl) L
          have hN2:Num (L.map fun x=>if is12 x then lbS L x else x):=HL.out.num.map (fun x=>by split <;> rfl)
          rw [hL2] at H1
          have hif:∀ x:LS,ifL ((fun x=>if is12 x then lbS L x else x) x)=ifL x:=fun x=>by dsimp only; split <;> rfl
          have hP:St B w0 (Osl (.slice a6 (L.filter isB).length c6) 297 2 (L.filter isB).length ((L.filter isB).flatMap f6)::(zwL Z pos1 A sa sc (L.map fun x=>if is12 x then lbS L x else x)++r)) wr:=by
            rw [zw_map hif]; exact H1.drop
          have HP:=Lib.hid (And.intro hP (And.intro hF6 (And.intro hN2 hif)))
          clear hL2 hF6 hN2 hif hP H1 hj hlt hk1
          obtain ⟨M,hM⟩:∃ M,M=L.map fun x=>if is12 x then lbS L x else x:=⟨_,rfl⟩
          rw [← hM] at HP
          have HM:=Lib.hid hM
          have hml:M.length=L.length:=by rw [hM,List.length_map]
          have HF:=Lib.hid (And.intro (show (M.filter isB).length=(L.filter isB).length by rw [HP.out.2.1]) hml)
          clear hM hml
          go_wp2_with fail
          rw [← HF.out.1]
          go_loopw [102] (R3 Z B w0 A M pos1 sa a6 sc c6 r) (fun i _=>(M.filter isB).length - (intOf i).toNat)
          case atStart=>exact ⟨0,Nat.zero_le _,rfl,by rw [gj_zero,HP.out.2.1]; exact HP.out.1⟩
          case round =>
            obtain ⟨j,hj,rfl,H1⟩:=hrel
            rw [zw_map (gj_if (g:=enS M) fun _=>rfl)] at H1
            by_cases hlt:j<(M.filter isB).length
            · obtain ⟨y, hy⟩ : ∃ y, (M.filter isB)[j]? = some y := ⟨_, List.getElem?_eq_getElem hlt⟩
              obtain ⟨s1,s2,s3,s4⟩:=gj_step (g:=enS M) HP.out.2.2.1 hy
              have hkB:BOk y.q.k:=⟨by simpa [isB,or_assoc] using s2⟩
              have hyL:L[y.i]? = some y:=by
                have h1:=hy
                rw [HP.out.2.1] at h1
                exact HL.out.num.mem (List.mem_filter.1 (List.mem_of_getElem? h1)).1
              obtain ⟨t,ht,hk8⟩:∃ t,M[y.ar]? = some t∧t.q.k=8:=by
                obtain ⟨hi,hi'⟩:=List.getElem?_eq_some_iff.1 hyL
                have hi2:y.i<sts.length:=by rw [← HL.out.len]; exact hi
                obtain ⟨_,q2,q3⟩:=HL.out.at_ y.i y _ hyL (List.getElem?_eq_getElem hi2)
                obtain ⟨s,hs1,hs2⟩:=(Har.out _ (List.getElem_mem hi2)).2 (by rw [q3] at hkB; exact hkB)
                rw [← q2] at hs1
                have hlt2:y.ar<L.length:=by rw [HL.out.len]; exact (List.getElem?_eq_some_iff.1 hs1).1
                obtain ⟨_,_,q4⟩:=HL.out.at_ y.ar _ s (List.getElem?_eq_getElem hlt2) hs1
                refine ⟨_,by rw [HM.out,List.getElem?_map,List.getElem?_eq_getElem hlt2]; rfl,?_⟩
                have:(L[y.ar]).q.k=8:=by rw [q4]; exact hs2
                dsimp only
                split <;> exact this
              have hlk:lkp M y.ar=.pointer (some ⟨t.b,0,none⟩):=by unfold lkp; rw [ht]
              obtain ⟨g6,hg6,hc6⟩:=(RowAt.of H1).get (f:=f6) (n:=2) (fun _=>rfl) (by omega) hy
              subst hg6
              have e0:wr.cell? ⟨g6,j * 2,none⟩=some (.iface (ty y.q.k) (.pointer (some ⟨y.b,0,none⟩))):=hc6 0 _ rfl
              have e1:wr.cell? ⟨g6,j * 2+1,none⟩=some (.int .i64 (y.ar:Int)):=hc6 1 _ rfl
              have hk0:(0:Int)≤(j:Int):=Int.natCast_nonneg _
              have hk1:(j:Int)<((M.filter isB).length:Int):=by omega
              have Hw:=Lib.hid (wrapS hlt (by have:=List.length_filter_le isB M; have:=HF.out.2; omega))
              have HA:=H1.alloc (ob 297 [.iface (ty y.q.k) (.pointer (some ⟨y.b,0,none⟩)),.int .i64 (y.ar:Int)])
              have Hs:=Lib.hid (And.intro s3 (And.intro s4 (And.intro hkB (And.intro ht (And.intro hlk hk8)))))
              have hm:=m_bl_setEndState hkB y.b
              have hna:=na_end hkB y.b
              have hta:=as_8 hk8
              clear hk8 H1 s1 s2 s3 s4 hlk hc6 hy hyL
              go_wp2_with fail
              obtain ⟨W,hW⟩:∃ W,W=wr.alloc (.cells #[.iface (ty y.q.k) (.pointer (some ⟨y.b,0,none⟩)),.int .i64 (y.ar:Int)] 297):=⟨_,rfl⟩
              rw [show wr.alloc (ob 297 [.iface (ty y.q.k) (.pointer (some ⟨y.b,0,none⟩)),.int .i64 (y.ar:Int)])=W from hW.symm] at HA
              rw [← hW]
              clear hW e0 e1
              have x0:W.cell? ⟨wr.heap.size,0,none⟩=some (.iface (ty y.q.k) (.pointer (some ⟨y.b,0,none⟩))):=HA.cells.1 0
              have x1:W.cell? ⟨wr.heap.size,1,none⟩=some (.int .i64 (y.ar:Int)):=HA.cells.1 1
              have x9:W.cell? ⟨Z.at_,9,none⟩=some (.slice sa M.length sc):=(HA.pick 3).cells.1 9
              obtain ⟨gs,hgs,hcs⟩:=(RowAt.of (HA.pick 4)) (by intro h; have:=congrArg List.length h; rw [List.length_map] at this; have h2:=(List.getElem?_eq_some_iff.1 ht).1; simp at this; rw [this] at h2; simp at h2)
              subst hgs
              have xs1:W.cell? ⟨gs,y.ar,none⟩=some (.iface (ty t.q.k) (.pointer (some ⟨t.b,0,none⟩))):=hcs y.ar _ (by rw [List.getElem?_map,ht]; rfl)
              have hb0:(0:Int)≤(y.ar:Int):=Int.natCast_nonneg _
              have hb1:(y.ar:Int)<(M.length:Int):=by have:=(List.getElem?_eq_some_iff.1 ht).1; omega
              have K2:=(show St B w0 (star (pts y.b (sT y.q.k) (y.q.cells (bP Z.at_) (y.i:Int))) (Osl (.slice y.q.ta y.q.tl.length y.q.tc) 266 1 y.q.tl.length y.q.tl)::_) W from (HA.pick 5).takeMap (f:=sqL Z.at_) Hs.out.1).split
              have d0:W.drew.cell? ⟨wr.heap.size,0,none⟩=some (.iface (ty y.q.k) (.pointer (some ⟨y.b,0,none⟩))):=x0
              have d1:W.drew.cell? ⟨wr.heap.size,1,none⟩=some (.int .i64 (y.ar:Int)):=x1
              have d9:W.drew.cell? ⟨Z.at_,9,none⟩=some (.slice (some ⟨gs,0,none⟩) M.length sc):=x9
              have ds:W.drew.cell? ⟨gs,y.ar,none⟩=some (.iface (ty t.q.k) (.pointer (some ⟨t.b,0,none⟩))):=xs1
              have K3:=Lib.hid (c327 (a:=t.b) K2.drew (cells9_B Hs.out.2.2.1))
              have Hfin:Hid (∀ W',St B w0 (pts y.b (sT y.q.k) ((y.q.cells (bP Z.at_) (y.i:Int)).set 9 (.pointer (some ⟨t.b,0,none⟩)))::Osl (.slice y.q.ta y.q.tl.length y.q.tc) 266 1 y.q.tl.length y.q.tl::stars ((((M.map (gj (M.filter isB) (enS M) j)).map (sqL Z.at_))).eraseIdx y.i)::pts wr.heap.size 297 [.iface (ty y.q.k) (.pointer (some ⟨y.b,0,none⟩)),.int .i64 (y.ar:Int)]::Osl (.slice (some ⟨g6,0,none⟩) (M.filter isB).length c6) 297 2 (M.filter isB).length ((M.filter isB).flatMap f6) ::
                  pts Z.bd 251 (dzC Z.bo Z.da Z.dn Z.dc pos1)::pts Z.at_ 114 (A.cells (.slice (some ⟨gs,0,none⟩) M.length sc))::Osl (.slice (some ⟨gs,0,none⟩) M.length sc) 169 1 M.length (M.map ifL)::r) W' →
                  R3 Z B w0 A M pos1 (some ⟨gs,0,none⟩) (some ⟨g6,0,none⟩) sc c6 r (.int .i64 ((j+1:Nat):Int)) W'):=Lib.hid (fun W' h=>by
                rw [set9_B Hs.out.2.2.1] at h
                have K4:=St.putMap (f:=sqL Z.at_) (L:=M.map (gj (M.filter isB) (enS M) j)) (a:=enS M y) (i:=y.i) (by unfold sqL enS; rw [Hs.out.2.2.2.2.1]; exact h.join) (by have:=(List.getElem?_eq_some_iff.1 Hs.out.1).1; exact this)
                rw [Hs.out.2.1] at K4
                have K5:=((((K4.pick 1).drop.pick 4).pick 4).pick 4).pick 4
                exact ⟨j+1,hlt,rfl,by rw [zw_map (gj_if (g:=enS M) fun _=>rfl)]; exact K5⟩)
              clear K2 HA hcs ht
              go_region_with (refine K3.out.mono ?_; rintro e w8 ⟨rfl,h8⟩
                              have H8:=Lib.hid (Hfin.out _ h8)
                              clear h8)
              all_goals
                go_wp2_with fail
                first | rw [Hw.out] | rw [show ((j:Int)+1)=((j+1:Nat):Int) from by omega]
                exact ⟨H8.out,measS hlt⟩
            · have hk1 : ¬ (j:Int)<((M.filter isB).length:Int):=by omega
              have hkl:j=(M.filter isB).length:=by omega
              subst hkl
              rw [gj_end HP.out.2.2.1] at H1
              have hif:∀ x:LS,ifL ((fun x=>if isB x then enS M x else x) x)=ifL x:=fun x=>by dsimp only; split <;> rfl
              have hP:St B w0 (zwL Z pos1 A sa sc (M.map fun x=>if isB x then enS M x else x)++r) wr:=by
                rw [zw_map hif]; exact H1.drop
              clear H1 hif
              rw [HM.out] at hP
              obtain ⟨_,hd2⟩:=rd_head Hd.out
              obtain ⟨_,hd3⟩:=rd_head hd2
              have Hd2:=Lib.hid (And.intro hd2 hd3)
              have H4:=Lib.hid (HR.out.c117 Hd.out hP)
              clear hP hd2 hd3
              go_wp2_with fail
              go_at_call 117
              refine H4.out.mono ?_
              rintro e w5 ⟨rfl,h5⟩
              have H5:=Lib.hid h5
              clear h5 H4
              go_wp2_with fail
              go_loopw [20] (R0 fun w=>w=w5) (fun _ _=>0)
              case atStart=>exact ⟨rfl,rfl⟩
              case round =>
                obtain ⟨rfl,rfl⟩:=hrel
                have H6:=Lib.hid (HR.out.c117 Hd2.out.1 H5.out)
                go_wp2_with fail
                go_at_call 117
                refine H6.out.mono ?_
                rintro e w6 ⟨rfl,h6⟩
                have H7:=Lib.hid h6
                clear h6 H6
                go_wp2_with fail
                go_loopw [23] (R0 fun w=>w=w6) (fun _ _=>0)
                case atStart=>exact ⟨rfl,rfl⟩
                case round =>
                  obtain ⟨rfl,rfl⟩:=hrel
                  go_wp2_with fail
                  go_end0
                  exact ⟨rfl,L,_,sa,sc,HL.out,Hd2.out.2,H7.out⟩
end Go.Proofs.YtbcngfgemjdllaaGreatDoor
