/- Part 37: Z15, Z16, Z17, Z18. -/
import Derived.Test.YtbcngfgemjdllaaGreatDoorB36
set_option linter.unusedVariables false
set_option linter.unusedSimpArgs false
section
namespace Go.Proofs.YtbcngfgemjdllaaGreatDoor
open Go.RowKit Go.Own
variable {B:Nat} {w0 w:World} {r:List HP}
theorem sl106:SlT Tryz.prog 106 116 1 16 .nilIface:=⟨by kernel_rfl,sl_inf' (by kernel_rfl),by kernel_rfl,by decide⟩
theorem as_decP {k:Nat} (hk:DOk k) (p:Value) (w:World):(Instr.typeAssert (.iface (ty k) p) 169 116 false).run Tryz.prog w=.ok (.iface (ty k) p) w:=by
  rcases hk.is with rfl | rfl | rfl | rfl | rfl | rfl <;> kernel_rfl
def dcS (d:Int) (x:LS):LS := { x with q := { x.q with dec:=d } }
theorem cells7_D {q:Sq} {a:Value} {n:Int} (h:DOk q.k):(q.cells a n)[7]? = some (.int .i64 q.dec):=by
  unfold Sq.cells Sq.ex
  rcases h.is with h | h | h | h | h | h <;> rw [h] <;> rfl
theorem set7_D {q:Sq} {a:Value} {n d:Int} (h:DOk q.k):(q.cells a n).set 7 (.int .i64 d)=({ q with dec:=d } : Sq).cells a n:=by
  unfold Sq.cells Sq.ex
  rcases h.is with h | h | h | h | h | h <;> simp only [h] <;> rfl
structure DU (L L':List LS):Prop where
  len:L'.length=L.length
  at_:∀ (i:Nat) (x:LS),L[i]? = some x→∃ d,L'[i]? = some (dcS d x)∧(0≤x.q.dec→0≤d)
variable {L L':List LS}
theorem DU.start:DU L L:=⟨rfl,fun i x h=>⟨x.q.dec,h,id⟩⟩
theorem DU.map (h:DU L L'):L'.map ifL=L.map ifL:=by
  apply List.ext_getElem?
  intro i
  rw [List.getElem?_map,List.getElem?_map]
  cases hx:L[i]? with
  | none =>
    have:L'[i]? = none:=by rw [List.getElem?_eq_none_iff] at hx ⊢; rw [h.len]; exact hx
    rw [this]
  | some x =>
    obtain ⟨d,h1,_⟩:=h.at_ i x hx
    rw [h1]; rfl
theorem DU.zw {Z:ZC} {pos:Nat} {A:AtC} {sa:Option Addr} {sc:Nat} (h:DU L L'):zwL Z pos A sa sc L' =
    [pts Z.bd 251 (dzC Z.bo Z.da Z.dn Z.dc pos),pts Z.at_ 114 (A.cells (.slice sa L.length sc)),Osl (.slice sa L.length sc) 169 1 L.length (L.map ifL),stars (L'.map (sqL Z.at_))]:=by
  unfold zwL
  rw [h.len,h.map]
theorem DU.set {i:Nat} {y:LS} {d:Int} (h:DU L L') (hy:L'[i]? = some y) (hd:0≤d):DU L (L'.set i (dcS d y)):=⟨by rw [List.length_set]; exact h.len,fun m x hx=>by
  obtain ⟨e,h1,h2⟩:=h.at_ m x hx
  by_cases hi:i=m
  · subst hi
    rw [hy] at h1; cases h1
    exact ⟨d,by rw [List.getElem?_set_self (List.getElem?_eq_some_iff.1 hy).1]; rfl,fun _=>hd⟩
  · exact ⟨e,by rw [List.getElem?_set_ne hi]; exact h1,h2⟩⟩
end Go.Proofs.YtbcngfgemjdllaaGreatDoor
end
section
namespace Go.Proofs.YtbcngfgemjdllaaGreatDoor
open Go.RowKit Go.Own
variable {B:Nat} {w0 w:World} {r:List HP}
def R88 (Z:ZC) (B:Nat) (w0:World) (A:AtC) (L:List LS) (dc:List Nat) (xs rest:List Int) (sa:Option Addr) (sc:Nat) (r:List HP) (i:Value) (wr:World):Prop :=
  ∃ (k pos:Nat) (M:List LS) (a:Option Addr) (c:Nat),k≤dc.length∧i=.int .i64 (k:Int)∧xs.drop pos=(dc.drop k).flatMap inI++rest∧DU L M ∧
    St B w0 (Osl (.slice a k c) 116 1 k ((dc.take k).map (lk L))::(zwL Z pos { A with dts:=.slice a k c } sa sc M++r)) wr
set_option maxRecDepth 100000 in
set_option maxHeartbeats 8000000 in
theorem c88 {Z:ZC} {A:AtC} {xs rest:List Int} {pos:Nat} {L:List LS} {dc:List Nat} {sa:Option Addr} {sc:Nat} (hR:RdZ Z B w0 xs) (hx:xs.drop pos=(dc.length:Int)::(dc.flatMap inI++rest)) (hN:dc.length<1000000) (hL:L.length<1000000)
    (hd:∀ s ∈ dc,∃ x,L[s]? = some x∧DOk x.q.k) (H:St B w0 (zwL Z pos { A with dts:=.slice none 0 0 } sa sc L++r) w) :
    Calls Tryz.prog 88 #[.pointer (some ⟨Z.bd,0,none⟩),.pointer (some ⟨Z.at_,0,none⟩)] w fun e w'=>e=.returned (.tuple #[])∧∃ M:List LS,DU L M∧∃ pos':Nat,xs.drop pos'=rest∧∃ a c,
      St B w0 (Osl (.slice a dc.length c) 116 1 dc.length (dc.map (lk L))::(zwL Z pos' { A with dts:=.slice a dc.length c } sa sc M++r)) w':=by
  have HR:=Lib.hid hR
  obtain ⟨_,hx2⟩:=rd_head hx
  have HX:=Lib.hid hx2
  have HD:=Lib.hid hd
  have H1:=Lib.hid (hR.c117 hx H)
  clear hR hx H hx2 hd
  go_enter Tryz.func88,Tryz.ntmps88
  go_wp2_with fail
  go_at_call 117
  refine H1.out.mono ?_
  rintro e w1 ⟨rfl,h1⟩
  have HH:=Lib.hid h1
  clear H1 h1
  go_wp2_with fail
  go_loopw [5] (R88 Z B w0 A L dc xs rest sa sc r) (fun i _=>dc.length - (intOf i).toNat)
  case atStart =>
    exact ⟨0,pos+1,L,none,0,Nat.zero_le _,rfl,by rw [List.drop_zero]; exact HX.out,DU.start,St.ownNil HH.out 116 1⟩
  case round =>
    clear HH
    obtain ⟨k,pos1,M,a,c,hk,rfl,hd,hU,H1⟩:=hrel
    by_cases hlt:k<dc.length
    · have hk0:(0:Int)≤(k:Int):=Int.natCast_nonneg _
      have hk1:(k:Int)<(dc.length:Int):=by omega
      have Hw:=Lib.hid (wrapS hlt (by omega))
      rw [List.drop_eq_getElem_cons hlt,List.flatMap_cons] at hd
      have htk:(dc.take k).map (lk L)++[lk L dc[k]]=(dc.take (k+1)).map (lk L):=by rw [List.take_add_one,List.getElem?_eq_getElem hlt,List.map_append]; rfl
      obtain ⟨x,hx,hxd⟩:=HD.out _ (List.getElem_mem hlt)
      have hlk:lk L dc[k]=ifL x:=by unfold lk; rw [hx]
      rw [hlk] at htk
      generalize dc[k]=s at hd hx
      have hd1:xs.drop pos1=(s:Int)::((dc.drop (k+1)).flatMap inI++rest):=hd
      obtain ⟨_,hd2⟩:=rd_head hd1
      have Hd:=Lib.hid (And.intro hd2 (And.intro htk (And.intro hU hx)))
      have Hc:=Lib.hid (HR.out.c117 hd1 (H1.pick 1))
      clear hd hd1 hd2 H1 hU hx htk hlk
      go_wp2_with fail
      go_at_call 117
      refine Hc.out.mono ?_
      rintro e w2 ⟨rfl,h⟩
      have h2:St B w0 (pts Z.bd 251 (dzC Z.bo Z.da Z.dn Z.dc (pos1+1))::Osl (.slice a k c) 116 1 k ((dc.take k).map (lk L))::pts Z.at_ 114 (({ A with dts:=.slice a k c } : AtC).cells (.slice sa M.length sc))::Osl (.slice sa M.length sc) 169 1 M.length (M.map ifL)::stars (M.map (sqL Z.at_))::r) w2:=h
      rw [Hd.out.2.2.1.len,Hd.out.2.2.1.map] at h2
      obtain ⟨gs,hgs,hrow⟩:=rowS (h2.pick 3) Hd.out.2.2.2
      subst hgs
      have q9:w2.cell? ⟨Z.at_,9,none⟩=some (.slice (some ⟨gs,0,none⟩) L.length sc):=(h2.pick 2).cells.1 9
      have q0:w2.cell? ⟨Z.at_,0,none⟩=some (.slice a k c):=(h2.pick 2).cells.1 0
      have hb0:(0:Int)≤(s:Int):=Int.natCast_nonneg _
      have hb1:(s:Int)<(L.length:Int):=by have:=(List.getElem?_eq_some_iff.1 Hd.out.2.2.2).1; omega
      have hta:=as_decP hxd
      have hms:=m_de_setDecision hxd x.b
      have HA:=Lib.hid (((h2.alloc (ob 116 [.iface (ty x.q.k) (.pointer (some ⟨x.b,0,none⟩))])).pick 2).pick 1)
      clear h h2 Hc
      go_wp2_with (first
        | (at_builtin; go_must (refine wpList_append1_st rfl _ _ rfl sl106 (g:=w2.heap.size) (news:=[.iface (ty x.q.k) (.pointer (some ⟨x.b,0,none⟩))]) HA.out rfl 1 rfl rfl rfl (by simp [Value.oneCell']) (by simp only [maxLen]; omega) (by omega) ?_)
           intro a5 c5 w5 h5
           have e0:w5.cell? ⟨Z.at_,0,none⟩=some (.slice a k c):=(h5.pick 2).cells.1 0
           have e0f:=(h5.pick 2).cells.2 0
           have H5:=Lib.hid ((h5.pick 2).setCell (off:=0) (.slice a5 (k+1) c5))
           clear h5))
      obtain ⟨d0,hz,_⟩:=Hd.out.2.2.1.at_ s x Hd.out.2.2.2
      have K1:=(show St B w0 (star (pts x.b (sT x.q.k) ((dcS d0 x).q.cells (bP Z.at_) (x.i:Int))) (Osl (.slice x.q.ta x.q.tl.length x.q.tc) 266 1 x.q.tl.length x.q.tl)::_) _ from (H5.out.pick 4).takeMap (f:=sqL Z.at_) hz).split
      have K2:=Lib.hid (c297 (x:=(k:Int)) K1 (cells7_D (q:=(dcS d0 x).q) hxd))
      have hU2:=Hd.out.2.2.1.set (d:=(k:Int)) hz (by omega)
      have Hz:=Lib.hid (And.intro hz (And.intro hU2 hxd))
      clear K1 hz hU2 hxd
      go_at_call 297
      refine K2.out.mono ?_
      rintro e w6 ⟨rfl,h6⟩
      rw [set7_D (q:=(dcS d0 x).q) Hz.out.2.2] at h6
      have K3:=St.putMap (f:=sqL Z.at_) (L:=M) (i:=s) (a:=dcS (k:Int) (dcS d0 x)) h6.join (List.getElem?_eq_some_iff.1 Hz.out.1).1
      have K4:=Lib.hid ((((K3.pick 4).pick 2).pick 4).pick 4)
      clear h6 K3 K2
      go_wp2_with fail
      first | rw [Hw.out] | rw [show ((k:Int)+1)=((k+1:Nat):Int) from by omega]
      exact ⟨⟨k+1,_,_,a5,c5,hlt,rfl,Hd.out.1,Hz.out.2.1,by rw [← Hd.out.2.1,Hz.out.2.1.zw]; exact K4.out⟩,measS hlt⟩
    · have hk1 : ¬ (k:Int)<(dc.length:Int):=by omega
      have hkl:k=dc.length:=by omega
      subst hkl
      rw [List.take_length] at H1
      rw [List.drop_length,List.flatMap_nil,List.nil_append] at hd
      have HH:=Lib.hid (And.intro hd (And.intro hU H1))
      clear hd hU H1
      go_wp2_with fail
      go_end0
      exact ⟨rfl,M,HH.out.2.1,pos1,HH.out.1,a,c,HH.out.2.2⟩
end Go.Proofs.YtbcngfgemjdllaaGreatDoor
end
section
namespace Go.Proofs.YtbcngfgemjdllaaGreatDoor
open Go.RowKit Go.Own
variable {B:Nat} {w0 w:World} {r:List HP}
theorem c132 {bd:Nat} {s:ByteArray} : Calls Tryz.prog 132 #[.pointer (some ⟨bd,0,none⟩),.bool true,.string s] w fun e w'=>e=.returned (.tuple #[])∧w=w':=by
  go_enter Tryz.func132,Tryz.ntmps132
  go_wp2_with fail
  go_end0
  exact ⟨rfl,rfl⟩
theorem c116 {g:Nat} {a b c:Bool} (H:St B w0 (pts g 283 [.bool a,.bool b,.bool c]::r) w):Calls Tryz.prog 116 #[.pointer (some ⟨g,0,none⟩)] w fun e w'=>∃ g',e=.returned (.pointer (some ⟨g',0,none⟩))∧St B w0 (pts g' 283 [.bool false,.bool b,.bool c]::r) w':=by
  have H1:=H.alloc (ob 283 [.bool false,.bool false,.bool false])
  have H2:=H.drop.alloc (ob 283 [.bool false,.bool b,.bool c])
  have p0:(w.alloc (.cells #[.bool false,.bool false,.bool false] 283)).cell? ⟨g,0,none⟩=some (.bool a):=(H1.pick 1).cells.1 0
  have p1:(w.alloc (.cells #[.bool false,.bool false,.bool false] 283)).cell? ⟨g,1,none⟩=some (.bool b):=(H1.pick 1).cells.1 1
  have p2:(w.alloc (.cells #[.bool false,.bool false,.bool false] 283)).cell? ⟨g,2,none⟩=some (.bool c):=(H1.pick 1).cells.1 2
  go_enter Tryz.func116,Tryz.ntmps116
  go_wp2_with fail
  go_ret
  exact ⟨_,rfl,H2⟩
theorem c80 (H:St B w0 r w):Calls Tryz.prog 80 #[] w fun e w'=>∃ g',e=.returned (.pointer (some ⟨g',0,none⟩))∧St B w0 (pts g' 283 [.bool false,.bool true,.bool false]::r) w':=by
  have H1:=Lib.hid (c116 (H.alloc (ob 283 [.bool true,.bool true,.bool false])))
  clear H
  go_enter Tryz.func80,Tryz.ntmps80
  go_wp2_with (first
    | (go_at_call 116; refine H1.out.mono ?_; rintro e w1 ⟨g',rfl,h1⟩
       have H2:=Lib.hid h1
       clear h1))
  go_ret
  exact ⟨_,rfl,H2.out⟩
theorem c63 (H:St B w0 r w):Calls Tryz.prog 63 #[.pointer none] w fun e w'=>∃ bd bo,e=.returned (.pointer (some ⟨bd,0,none⟩))∧St B w0 (pts bd 251 [.pointer (some ⟨bo,0,none⟩),.slice none 0 0,.int .i64 0]::pts bo 283 [.bool false,.bool true,.bool false]::r) w':=by
  have H1:=Lib.hid (c80 H)
  clear H
  go_enter Tryz.func63,Tryz.ntmps63
  go_wp2_with (first
    | (go_at_call 80; refine H1.out.mono ?_; rintro e w1 ⟨g',rfl,h1⟩
       have H2:=Lib.hid (h1.alloc (ob 251 [.pointer (some ⟨g',0,none⟩),.slice none 0 0,.int .i64 0]))
       clear h1))
  go_ret
  exact ⟨_,g',rfl,H2.out⟩
theorem und108:∃ a b,Tryz.prog.underlying 108=some (.map a b):=⟨9,239,by kernel_rfl⟩
theorem run_makeMap4 (w:World):(Instr.makeMap 108 none).run Tryz.prog w=.ok (.map (some w.heap.size)) (w.alloc (.map #[] 0)):=by
  obtain ⟨a,b,h⟩:=und108
  simp [Instr.makeMap,run_underlying h]
theorem c119 {g mt:Int} (H:St B w0 r w):Calls Tryz.prog 119 #[.int .i64 g,.int .i64 mt] w fun e w'=>∃ at_ mb,e=.returned (.pointer (some ⟨at_,0,none⟩)) ∧
    St B w0 (pts at_ 114 [.slice none 0 0,.int .i64 g,.slice none 0 0,.int .i64 mt,.map (some mb),.slice none 0 0,.slice none 0 0,.slice none 0 0,.slice none 0 0,.slice none 0 0]::r) w':=by
  have hm:=run_makeMap4
  have HH:=Lib.hid H
  clear H
  go_enter Tryz.func119,Tryz.ntmps119
  go_wp2_with fail
  go_ret
  have h1:=((HH.out.alloc (.map #[] 0)).alloc (ob 114 [.slice none 0 0,.int .i64 g,.slice none 0 0,.int .i64 mt,.map (some w.heap.size),.slice none 0 0,.slice none 0 0,.slice none 0 0,.slice none 0 0,.slice none 0 0]))
  rw [show (w.alloc (.map #[] 0)).heap.size=w.heap.size+1 from Array.size_push _] at h1
  exact ⟨w.heap.size+1,w.heap.size,rfl,(h1.pick 1).drop⟩
theorem c81 {Z:ZC} {xs rest:List Int} {pos:Nat} (hR:RdZ Z B w0 xs) (hx:xs.drop pos=4::rest) (H:St B w0 (pts Z.bd 251 (dzC Z.bo Z.da Z.dn Z.dc pos)::r) w) :
    Calls Tryz.prog 81 #[.pointer (some ⟨Z.bd,0,none⟩)] w fun e w'=>e=.returned (.tuple #[])∧xs.drop (pos+1)=rest∧St B w0 (pts Z.bd 251 (dzC Z.bo Z.da Z.dn Z.dc (pos+1))::r) w':=by
  have HX:=Lib.hid (rd_head hx).2
  have H1:=Lib.hid (hR.c117 hx H)
  clear hR hx H
  go_enter Tryz.func81,Tryz.ntmps81
  go_wp2_with (first
    | (go_at_call 117; refine H1.out.mono ?_; rintro e w1 ⟨rfl,h1⟩
       have H2:=Lib.hid h1
       clear h1))
  go_end0
  exact ⟨rfl,HX.out,H2.out⟩
theorem c82 {Z:ZC} {xs rest:List Int} {pos:Nat} {mt:Int} (hR:RdZ Z B w0 xs) (hx:xs.drop pos=0::mt::rest) (H:St B w0 (pts Z.bd 251 (dzC Z.bo Z.da Z.dn Z.dc pos)::r) w) :
    Calls Tryz.prog 82 #[.pointer (some ⟨Z.bd,0,none⟩)] w fun e w'=>∃ at_ mb,e=.returned (.pointer (some ⟨at_,0,none⟩))∧xs.drop (pos+1+1)=rest ∧
      St B w0 (pts at_ 114 [.slice none 0 0,.int .i64 0,.slice none 0 0,.int .i64 mt,.map (some mb),.slice none 0 0,.slice none 0 0,.slice none 0 0,.slice none 0 0,.slice none 0 0]::pts Z.bd 251 (dzC Z.bo Z.da Z.dn Z.dc (pos+1+1))::r) w':=by
  obtain ⟨_,hx2⟩:=rd_head hx
  have HX:=Lib.hid (And.intro hx2 (rd_head hx2).2)
  have HR:=Lib.hid hR
  have H1:=Lib.hid (hR.c117 hx H)
  clear hR hx H hx2
  go_enter Tryz.func82,Tryz.ntmps82
  go_wp2_with fail
  go_at_call 117
  refine H1.out.mono ?_
  rintro e w1 ⟨rfl,h1⟩
  have H2:=Lib.hid (HR.out.c117 HX.out.1 h1)
  clear h1 H1
  go_wp2_with fail
  go_at_call 117
  refine H2.out.mono ?_
  rintro e w2 ⟨rfl,h2⟩
  have H3:=Lib.hid (c119 (g:=0) (mt:=mt) h2)
  clear h2 H2
  go_wp2_with fail
  go_at_call 119
  refine H3.out.mono ?_
  rintro e w3 ⟨at_,mb,rfl,h3⟩
  have H4:=Lib.hid h3
  clear h3 H3
  go_wp2_with fail
  go_ret
  exact ⟨at_,mb,rfl,HX.out.2,H4.out⟩
end Go.Proofs.YtbcngfgemjdllaaGreatDoor
end
section
namespace Go.Proofs.YtbcngfgemjdllaaGreatDoor
open Go.RowKit Go.Own
variable {B:Nat} {w0 w:World} {r:List HP}
structure VSt (M:List LS) (ts:List TP) (j:Nat) (x:LS):Prop where
  ok:KOk x.q.k
  tl:x.q.tl=(outT ts j).map tpV
  tr:∀ y ∈ outT ts j,TOk y.tk∧∃ t,M[y.d.to]? = some t∧y.cs[0]? = some (ifL t)
  few:x.q.eo=true∨(x.q.k=1∨x.q.k=7)
  k4:x.q.k=4→IsIf x.q.lb
  k10:x.q.k=10→IsIf x.q.lb∧∃ y0 y1 t0 t1,outT ts j=[y0,y1]∧M[y0.d.to]? = some t0∧t0.q.k=5∧M[y1.d.to]? = some t1∧t1.q.k=12
  k9:x.q.k=9→∃ y t,outT ts j=[y]∧M[y.d.to]? = some t∧t.q.k=10
  k12:x.q.k=12→IsIf x.q.lb
  k2:x.q.k=2→IsIf x.q.st
  blk:BOk x.q.k→∃ p,x.q.en=.pointer (some p)
  k8:x.q.k=8→IsIf x.q.st
  dec:0≤x.q.dec
  one:x.q.k=1∨x.q.k=7→(outT ts j).length≤1
end Go.Proofs.YtbcngfgemjdllaaGreatDoor
end
