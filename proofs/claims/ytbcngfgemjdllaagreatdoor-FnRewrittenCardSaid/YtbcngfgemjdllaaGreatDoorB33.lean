/- Part 33: Z7. -/
import Derived.Test.YtbcngfgemjdllaaGreatDoorB32
set_option linter.unusedVariables false
set_option linter.unusedSimpArgs false
namespace Go.Proofs.YtbcngfgemjdllaaGreatDoor
open Go.RowKit Go.Own
variable {B:Nat} {w0 w:World} {r:List HP}
theorem sl110:SlT Tryz.prog 110 305 1 8 (.pointer none):=⟨by kernel_rfl,sl_inf' (by kernel_rfl),by kernel_rfl,by decide⟩
theorem sl111:SlT Tryz.prog 111 271 1 8 (.pointer none):=⟨by kernel_rfl,sl_inf' (by kernel_rfl),by kernel_rfl,by decide⟩
def fillL (l:List Value) (n:Nat) (z:Value) (k:Nat):List Value:=l.take k++List.replicate (n - k) z
theorem fill_zero (l:List Value) (n:Nat) (z:Value):fillL l n z 0=List.replicate n z:=by simp [fillL]
theorem fill_all {l:List Value} {n:Nat} {z:Value} (h:l.length=n):fillL l n z n=l:=by subst h; simp [fillL]
theorem fill_set {l:List Value} {n k:Nat} {z v:Value} (hv:l[k]? = some v) (h:l.length=n):(fillL l n z k).set k v=fillL l n z (k+1):=by
  have hk:k<n:=by rw [← h]; exact (List.getElem?_eq_some_iff.1 hv).1
  unfold fillL
  rw [List.take_add_one,hv,List.set_append_right _ _ (by simp; omega)]
  have:k - (l.take k).length=0:=by simp; omega
  rw [this,show n - k=(n - (k+1))+1 from by omega,List.replicate_succ]
  simp
theorem fill_get {l:List Value} {n k:Nat} {z:Value} (h:l.length=n) (hk:k<n):(fillL l n z k)[k]? = some z:=by
  unfold fillL
  rw [List.getElem?_append_right (by simp; omega),List.getElem?_replicate]
  rw [if_pos (by simp; omega)]
theorem cells7_2 {q:Sq} {a:Value} {n:Int} (h:q.k=2):(q.cells a n)[7]? = some q.st:=by
  unfold Sq.cells Sq.ex
  rw [h]; rfl
theorem set7_2 {q:Sq} {a v:Value} {n:Int} (h:q.k=2):(q.cells a n).set 7 v=({ q with st:=v } : Sq).cells a n:=by
  unfold Sq.cells Sq.ex
  simp only [h]
  rfl
theorem as_2 {k:Nat} (h:k=2) (p:Value) (w:World):(Instr.typeAssert (.iface (ty k) p) 169 305 false).run Tryz.prog w=.ok p w:=by subst h; exact run_assert_plain (e:=304) (by kernel_rfl)
theorem as_7m {k:Nat} (h:KOk k) (hn:k≠7) (p:Value) (w:World):(Instr.typeAssert (.iface (ty k) p) 169 271 true).run Tryz.prog w=.ok (.tuple #[.pointer none,.bool false]) w:=as_stop_miss ⟨h,hn⟩ p w
def stS (v:Value) (x:LS):LS := { x with q := { x.q with st:=v } }
structure StU (ruls:List (Nat × Nat)) (L L':List LS) (n:Nat):Prop where
  len:L'.length=L.length
  at_:∀ (i:Nat) (x:LS),L[i]? = some x→∃ v,L'[i]? = some (stS v x)∧(x.q.k≠2→v=x.q.st) ∧
    (∀ (j:Nat) (y:LS) (ρ tt:Nat),j<n→L[j]? = some y→y.q.k=7→y.q.ru=(ρ : Int)→ruls[ρ]? = some (i,tt)→∃ T p,v=.iface T (.pointer p))
theorem StU.start {ruls:List (Nat × Nat)} {L:List LS} : StU ruls L L 0:=⟨rfl,fun i x h=>⟨x.q.st,h,fun _=>rfl,fun j _ _ _ hj=>absurd hj (Nat.not_lt_zero _)⟩⟩
theorem StU.map {ruls:List (Nat × Nat)} {L L':List LS} {n:Nat} (h:StU ruls L L' n):L'.map ifL=L.map ifL:=by
  apply List.ext_getElem?
  intro i
  rw [List.getElem?_map,List.getElem?_map]
  cases hx:L[i]? with
  | none =>
    have:L'[i]? = none:=by rw [List.getElem?_eq_none_iff] at hx ⊢; rw [h.len]; exact hx
    rw [this]
  | some x =>
    obtain ⟨v,h1,_⟩:=h.at_ i x hx
    rw [h1]; rfl
theorem StU.zw {Z:ZC} {pos:Nat} {A:AtC} {sa:Option Addr} {sc:Nat} {ruls:List (Nat × Nat)} {L L':List LS} {n:Nat} (h:StU ruls L L' n):zwL Z pos A sa sc L' =
    [pts Z.bd 251 (dzC Z.bo Z.da Z.dn Z.dc pos),pts Z.at_ 114 (A.cells (.slice sa L.length sc)),Osl (.slice sa L.length sc) 169 1 L.length (L.map ifL),stars (L'.map (sqL Z.at_))]:=by
  unfold zwL
  rw [h.len,h.map]
theorem StU.skip {ruls:List (Nat × Nat)} {L L':List LS} {n:Nat} {x:LS} (h:StU ruls L L' n) (hx:L[n]? = some x) (hk:x.q.k≠7):StU ruls L L' (n+1):=⟨h.len,fun i y hy=>by
  obtain ⟨v,h1,h2,h3⟩:=h.at_ i y hy
  refine ⟨v,h1,h2,fun j z ρ tt hj hz hk7 hru hr => ?_⟩
  by_cases hjn:j=n
  · subst hjn; rw [hx] at hz; cases hz; exact absurd hk7 hk
  · exact h3 j z ρ tt (by omega) hz hk7 hru hr⟩
theorem StU.step {ruls:List (Nat × Nat)} {L L':List LS} {n i ρ tt:Nat} {x t y:LS} {T:TypeId} {p:Option Addr} (h:StU ruls L L' n) (hx:L[n]? = some x) (hru:x.q.ru=(ρ : Int)) (hr:ruls[ρ]? = some (i,tt)) (ht:L[i]? = some t) (hk:t.q.k=2) (hy:L'[i]? = some y) :
    StU ruls L (L'.set i (stS (.iface T (.pointer p)) y)) (n+1):=⟨by rw [List.length_set]; exact h.len,fun i' z hz=>by
  obtain ⟨v,h1,h2,h3⟩:=h.at_ i' z hz
  by_cases hi:i=i'
  · subst hi
    rw [ht] at hz; cases hz
    rw [hy] at h1; cases h1
    exact ⟨.iface T (.pointer p),by rw [List.getElem?_set_self (List.getElem?_eq_some_iff.1 hy).1]; rfl,fun hne=>absurd hk hne,fun _ _ _ _ _ _ _ _ _=>⟨T,p,rfl⟩⟩
  · refine ⟨v,by rw [List.getElem?_set_ne hi]; exact h1,h2,fun j z' ρ' tt' hj hz' hk7 hru' hr' => ?_⟩
    by_cases hjn:j=n
    · subst hjn
      rw [hx] at hz'; cases hz'
      have : ρ' = ρ := by rw [hru] at hru'; omega
      subst this
      rw [hr] at hr'; cases hr'
      exact absurd rfl hi
    · exact h3 j z' ρ' tt' (by omega) hz' hk7 hru' hr'⟩
theorem St.stCell {a:Nat} {L:List LS} {i o:Nat} {x:LS} {u:Value} (H:St B w0 (stars (L.map (sqL a))::r) w) (hx:L[i]? = some x) (hu:(x.q.cells (bP a) (x.i:Int))[o]? = some u):w.cell? ⟨x.b,o,none⟩=some u:=by
  have K:=(show St B w0 (star (pts x.b (sT x.q.k) (x.q.cells (bP a) (x.i:Int))) (Osl (.slice x.q.ta x.q.tl.length x.q.tc) 266 1 x.q.tl.length x.q.tl)::_) w from H.takeMap (f:=sqL a) hx).split
  rw [K.cells.1 o,hu]
def rtV (x:Nat × Nat):Value:=.int .i64 (x.2:Int)
def rsV (L:List LS) (x:Nat × Nat):Value:=lkp L x.1
def R84 (Z:ZC) (B:Nat) (w0:World) (A:AtC) (L:List LS) (ruls:List (Nat × Nat)) (xs rest:List Int) (sa:Option Addr) (sc g6 g8:Nat) (r:List HP) (i:Value) (wr:World):Prop :=
  ∃ k pos:Nat,k≤ruls.length∧i=.int .i64 (k:Int)∧xs.drop pos=(ruls.drop k).flatMap ruI++rest ∧
    St B w0 (zwL Z pos { A with rtt:=.slice (some ⟨g8,0,none⟩) ruls.length ruls.length,rst:=.slice (some ⟨g6,0,none⟩) ruls.length ruls.length } sa sc L ++
      (pts g6 305 (fillL (ruls.map (rsV L)) ruls.length (.pointer none) k)::pts g8 3 (fillL (ruls.map rtV) ruls.length (.int .i64 0) k)::r)) wr
def R84b (Z:ZC) (B:Nat) (w0:World) (A:AtC) (L:List LS) (ruls:List (Nat × Nat)) (pos:Nat) (sa:Option Addr) (sc g6 g7 g8:Nat) (r:List HP) (i:Value) (wr:World):Prop :=
  ∃ (j:Nat) (L':List LS) (vs:List Value),j≤L.length∧i=.int .i64 (j:Int)∧vs.length=ruls.length∧StU ruls L L' j ∧
    St B w0 (zwL Z pos { A with rtt:=.slice (some ⟨g8,0,none⟩) ruls.length ruls.length,rst:=.slice (some ⟨g6,0,none⟩) ruls.length ruls.length,rsp:=.slice (some ⟨g7,0,none⟩) ruls.length ruls.length } sa sc L' ++
      (pts g7 271 vs::pts g6 305 (ruls.map (rsV L))::pts g8 3 (ruls.map rtV)::r)) wr
set_option maxRecDepth 100000 in
set_option maxHeartbeats 8000000 in
theorem c84 {Z : ZC} {A : AtC} {xs rest : List Int} {pos : Nat} {L : List LS} {ruls : List (Nat × Nat)} {sa : Option Addr} {sc : Nat} (hR : RdZ Z B w0 xs) (hx : xs.drop pos = (ruls.length : Int) :: (ruls.flatMap ruI ++ rest)) (hN : ruls.length < 1000000) (hL : L.length < 1000000)
    (hnum:Num L) (hrs:∀ x ∈ ruls,∃ t,L[x.1]? = some t∧t.q.k=2) (hst:∀ t ∈ L,t.q.k=7→∃ ρ,ρ < ruls.length∧t.q.ru=(ρ : Int)) (hk:∀ t ∈ L,KOk t.q.k) (H:St B w0 (zwL Z pos A sa sc L++r) w) :
    Calls Tryz.prog 84 #[.pointer (some ⟨Z.bd,0,none⟩),.pointer (some ⟨Z.at_,0,none⟩)] w fun e w'=>e=.returned (.tuple #[])∧∃ (L':List LS) (pos' g6 g7 g8:Nat) (vs:List Value),StU ruls L L' L.length∧xs.drop pos'=rest ∧
      St B w0 (zwL Z pos' { A with rtt:=.slice (some ⟨g8,0,none⟩) ruls.length ruls.length,rst:=.slice (some ⟨g6,0,none⟩) ruls.length ruls.length,rsp:=.slice (some ⟨g7,0,none⟩) ruls.length ruls.length } sa sc L' ++
        (pts g7 271 vs::pts g6 305 (ruls.map (rsV L))::pts g8 3 (ruls.map rtV)::r)) w':=by
  obtain ⟨zs8,hz8,hy8,hm8⟩:=run_mk sl45 (l:=ruls.length) (c:=ruls.length) (Nat.le_refl _) hN (by omega)
  obtain ⟨zs6,hz6,hy6,hm6⟩:=run_mk sl110 (l:=ruls.length) (c:=ruls.length) (Nat.le_refl _) hN (by omega)
  obtain ⟨zs7,hz7,hy7,hm7⟩:=run_mk sl111 (l:=ruls.length) (c:=ruls.length) (Nat.le_refl _) hN (by omega)
  have hr8:=rep_of (fun j=>hy8 j (.int .i64 0) rfl (by kernel_rfl))
  have hr6:=rep_of (fun j=>hy6 j (.pointer none) rfl (by kernel_rfl))
  have hr7:=rep_of (fun j=>hy7 j (.pointer none) rfl (by kernel_rfl))
  subst hr8 hr6 hr7
  have HR:=Lib.hid hR
  obtain ⟨_,hx2⟩:=rd_head hx
  have HX:=Lib.hid hx2
  have HS:=Lib.hid (And.intro hnum (And.intro hrs (And.intro hst hk)))
  have H1:=Lib.hid (hR.c117 hx H)
  clear hR hx H hx2 hz8 hz6 hz7 hy8 hy6 hy7 hnum hrs hst hk
  go_enter Tryz.func84,Tryz.ntmps84
  go_wp2_with fail
  go_at_call 117
  refine H1.out.mono ?_
  rintro e w1 ⟨rfl,h1⟩
  have q1:w1.cell? ⟨Z.at_,1,none⟩=some (.int .i64 0):=(h1.pick 1).cells.1 1
  have H2:=(h1.alloc (ob 3 (List.replicate ruls.length (.int .i64 0)))).pick 2
  have q8:=H2.cells.1 8
  have q8f:=H2.cells.2 8
  have H3:=H2.setCell (off:=8) (.slice (some ⟨w1.heap.size,0,none⟩) ruls.length ruls.length)
  have H4:=(H3.alloc (ob 305 (List.replicate ruls.length (.pointer none)))).pick 1
  have q6:=H4.cells.1 6
  have q6f:=H4.cells.2 6
  have H5:=H4.setCell (off:=6) (.slice (some ⟨((w1.alloc (ob 3 (List.replicate ruls.length (.int .i64 0)))).setCell ⟨Z.at_,8,none⟩ (.slice (some ⟨w1.heap.size,0,none⟩) ruls.length ruls.length)).heap.size,0,none⟩) ruls.length ruls.length)
  have q66:=H5.cells.1 6
  have hz:((w1.alloc (ob 3 (List.replicate ruls.length (.int .i64 0)))).setCell ⟨Z.at_,8,none⟩ (.slice (some ⟨w1.heap.size,0,none⟩) ruls.length ruls.length)).heap.size=w1.heap.size+1:=by rw [World.size_setCell]; exact Array.size_push _
  have HH:=Lib.hid H5
  have Hz:=Lib.hid hz
  clear H1 h1 H2 H3 H4 H5 hz
  go_wp2_with fail
  try rw [Hz.out]
  go_loopw [35] (R84 Z B w0 A L ruls xs rest sa sc (w1.heap.size+1) w1.heap.size r) (fun i _=>ruls.length - (intOf i).toNat)
  case atStart =>
    have X:=HH.out
    rw [Hz.out] at X
    exact ⟨0,pos+1,Nat.zero_le _,rfl,by rw [List.drop_zero]; exact HX.out,by rw [fill_zero,fill_zero]; exact (((((X.pick 2).pick 2).pick 5).pick 5).pick 4).pick 5⟩
  case round =>
    clear HH q1 q8 q8f q6 q6f q66
    obtain ⟨k,pos1,hk,rfl,hd,H1⟩:=hrel
    by_cases hlt:k<ruls.length
    · obtain ⟨t,ht,ht2⟩:=HS.out.2.1 _ (List.getElem_mem hlt)
      have hk0:(0:Int)≤(k:Int):=Int.natCast_nonneg _
      have hk1:(k:Int)<(ruls.length:Int):=by omega
      have Hw:=Lib.hid (wrapS hlt (by omega))
      rw [List.drop_eq_getElem_cons hlt,List.flatMap_cons] at hd
      have hg6:(ruls.map (rsV L))[k]? = some (.pointer (some ⟨t.b,0,none⟩)):=by
        rw [List.getElem?_map,List.getElem?_eq_getElem hlt]
        show some (lkp L _)=_
        unfold lkp; rw [ht]
      have hg8:(ruls.map rtV)[k]? = some (.int .i64 (ruls[k].2:Int)):=by
        rw [List.getElem?_map,List.getElem?_eq_getElem hlt]; rfl
      generalize ruls[k]=x at hd ht hg6 hg8
      have hd1:xs.drop pos1=(x.1:Int)::(x.2:Int)::((ruls.drop (k+1)).flatMap ruI++rest):=hd
      obtain ⟨_,hd2⟩:=rd_head hd1
      obtain ⟨_,hd3⟩:=rd_head hd2
      have Hd:=Lib.hid (And.intro hd2 (And.intro hd3 (And.intro hg6 hg8)))
      have H2:=Lib.hid (HR.out.c117 hd1 H1)
      have hta:=as_2 ht2
      have hb0:(0:Int)≤(x.1:Int):=Int.natCast_nonneg _
      have hb1:(x.1:Int)<(L.length:Int):=by have:=(List.getElem?_eq_some_iff.1 ht).1; omega
      clear hd hd1 hd2 hd3 H1 hg6 hg8 ht2
      go_wp2_with fail
      go_at_call 117
      refine H2.out.mono ?_
      rintro e w2 ⟨rfl,h2⟩
      have qa9:w2.cell? ⟨Z.at_,9,none⟩=some (.slice sa L.length sc):=(h2.pick 1).cells.1 9
      have qa6:w2.cell? ⟨Z.at_,6,none⟩=some (.slice (some ⟨w1.heap.size+1,0,none⟩) ruls.length ruls.length):=(h2.pick 1).cells.1 6
      obtain ⟨gs,hgs,hcs⟩:=(RowAt.of (h2.pick 2)) (by intro h; have:=congrArg List.length h; rw [List.length_map] at this; have h2:=(List.getElem?_eq_some_iff.1 ht).1; simp at this; rw [this] at h2; simp at h2)
      subst hgs
      have xs1:w2.cell? ⟨gs,x.1,none⟩=some (.iface (ty t.q.k) (.pointer (some ⟨t.b,0,none⟩))):=hcs x.1 _ (by rw [List.getElem?_map,ht]; rfl)
      have qg6:=(h2.pick 4).cells.1 k
      rw [fill_get (by simp) hlt] at qg6
      have qg6f:=(h2.pick 4).cells.2 k
      have H3:=(h2.pick 4).setCell (off:=k) (.pointer (some ⟨t.b,0,none⟩))
      rw [fill_set Hd.out.2.2.1 (by simp)] at H3
      have qa1:(w2.setCell ⟨w1.heap.size+1,k,none⟩ (.pointer (some ⟨t.b,0,none⟩))).cell? ⟨Z.at_,1,none⟩=some (.int .i64 0):=(H3.pick 2).cells.1 1
      have H3':=Lib.hid (HR.out.c117 Hd.out.1 (H3.pick 1))
      clear h2 H3 H2 hcs
      go_wp2_with fail
      go_at_call 117
      refine H3'.out.mono ?_
      rintro e w3 ⟨rfl,h3⟩
      have qa8:w3.cell? ⟨Z.at_,8,none⟩=some (.slice (some ⟨w1.heap.size,0,none⟩) ruls.length ruls.length):=(h3.pick 2).cells.1 8
      have qg8:=(h3.pick 5).cells.1 k
      rw [fill_get (by simp) hlt] at qg8
      have qg8f:=(h3.pick 5).cells.2 k
      have H5:=(h3.pick 5).setCell (off:=k) (.int .i64 (x.2:Int))
      rw [fill_set Hd.out.2.2.2 (by simp)] at H5
      have H6:=Lib.hid (((((H5.pick 2).pick 5).pick 5).pick 5).pick 5)
      clear h3 H5 H3'
      go_wp2_with fail
      first | rw [Hw.out] | rw [show ((k:Int)+1)=((k+1:Nat):Int) from by omega]
      exact ⟨⟨k+1,_,hlt,rfl,Hd.out.2.1,H6.out⟩,measS hlt⟩
    · have hk1 : ¬ (k:Int)<(ruls.length:Int):=by omega
      have hkl:k=ruls.length:=by omega
      subst hkl
      rw [fill_all (by simp),fill_all (by simp)] at H1
      rw [List.drop_length,List.flatMap_nil,List.nil_append] at hd
      have Hd:=Lib.hid hd
      have H4:=(H1.alloc (ob 271 (List.replicate ruls.length (.pointer none)))).pick 2
      have q7:=H4.cells.1 7
      have q7f:=H4.cells.2 7
      have H5:=H4.setCell (off:=7) (.slice (some ⟨wr.heap.size,0,none⟩) ruls.length ruls.length)
      have q79:((wr.alloc (ob 271 (List.replicate ruls.length (.pointer none)))).setCell ⟨Z.at_,7,none⟩ (.slice (some ⟨wr.heap.size,0,none⟩) ruls.length ruls.length)).cell? ⟨Z.at_,9,none⟩=some (.slice sa L.length sc):=H5.cells.1 9
      have HH:=Lib.hid H5
      clear H1 H4 H5 hd
      go_wp2_with fail
      generalize wr.heap.size=g7 at HH ⊢
      generalize w1.heap.size+1=g6 at HH ⊢
      generalize w1.heap.size=g8 at HH ⊢
      go_loopw [80] (R84b Z B w0 A L ruls pos1 sa sc g6 g7 g8 r) (fun i _=>L.length - (intOf i).toNat)
      case atStart=>exact ⟨0,L,_,Nat.zero_le _,rfl,by simp,StU.start,((((HH.out.pick 1).pick 4).pick 4).pick 3).pick 4⟩
      case round =>
        clear HH q7 q7f q79
        obtain ⟨j,L',vs,hj,rfl,hvs,hU,H1⟩:=hrel
        rw [hU.zw] at H1
        by_cases hlt:j<L.length
        · obtain ⟨x,hx⟩:∃ x,L[j]? = some x:=⟨_,List.getElem?_eq_getElem hlt⟩
          have hk0:(0:Int)≤(j:Int):=Int.natCast_nonneg _
          have hk1:(j:Int)<(L.length:Int):=by omega
          have Hw:=Lib.hid (wrapS hlt (by omega))
          have hKO:=HS.out.2.2.2 x (List.mem_of_getElem? hx)
          obtain ⟨gs,hgs,hcs⟩:=(RowAt.of (H1.pick 2)) (by intro h; have:=congrArg List.length h; rw [List.length_map] at this; simp at this; rw [this] at hlt; simp at hlt)
          subst hgs
          have xs1:wr.cell? ⟨gs,j,none⟩=some (.iface (ty x.q.k) (.pointer (some ⟨x.b,0,none⟩))):=hcs j _ (by rw [List.getElem?_map,hx]; rfl)
          have HU:=Lib.hid hU
          have Hx:=Lib.hid hx
          clear hcs hU hx
          by_cases h7:x.q.k=7
          · have hta:(Instr.typeAssert (.iface (ty x.q.k) (.pointer (some ⟨x.b,0,none⟩))) 169 271 true).run Tryz.prog wr=.ok (.tuple #[.pointer (some ⟨x.b,0,none⟩),.bool true]) wr:=as_stop_hit h7 _ _
            obtain ⟨ρ,hρ,hru⟩:=HS.out.2.2.1 x (List.mem_of_getElem? Hx.out) h7
            obtain ⟨t,ht,ht2⟩:=HS.out.2.1 _ (List.getElem_mem hρ)
            have hrρ : ruls[ρ]? = some (ruls[ρ].1,ruls[ρ].2):=List.getElem?_eq_getElem hρ
            have hg6:(ruls.map (rsV L))[ρ]? = some (.pointer (some ⟨t.b,0,none⟩)):=by
              rw [List.getElem?_map,hrρ]
              show some (lkp L _)=_
              unfold lkp; rw [ht]
            generalize ruls[ρ].1=ii at ht hrρ
            generalize ruls[ρ].2=tt at hrρ
            obtain ⟨vx,hx',hvx,_⟩:=HU.out.at_ j x Hx.out
            have hvx':=hvx (by rw [h7]; decide)
            subst hvx'
            obtain ⟨vt,ht',_,_⟩:=HU.out.at_ ii t ht
            have h3c:((stS x.q.st x).q.cells (bP Z.at_) ((stS x.q.st x).i:Int))[3]? = some (.int .i64 (ρ : Int)):=by rw [← hru]; rfl
            have x3:wr.cell? ⟨x.b,3,none⟩=some (.int .i64 (ρ : Int)):=St.stCell (x:=stS x.q.st x) (H1.pick 3) hx' h3c
            have x7:wr.cell? ⟨Z.at_,7,none⟩=some (.slice (some ⟨g7,0,none⟩) ruls.length ruls.length):=(H1.pick 1).cells.1 7
            obtain ⟨u,hu⟩:∃ u,vs[ρ]? = some u:=⟨_,List.getElem?_eq_getElem (by rw [hvs]; exact hρ)⟩
            have v7:wr.cell? ⟨g7,ρ,none⟩=some u:=by rw [(H1.pick 4).cells.1 ρ,hu]
            have v7f:=(H1.pick 4).cells.2 ρ
            have d3:wr.drew.cell? ⟨x.b,3,none⟩=some (.int .i64 (ρ : Int)):=x3
            have d7:wr.drew.cell? ⟨Z.at_,7,none⟩=some (.slice (some ⟨g7,0,none⟩) ruls.length ruls.length):=x7
            have dv7:wr.drew.cell? ⟨g7,ρ,none⟩=some u:=v7
            have dv7f:wr.drew.frozen? ⟨g7,ρ,none⟩=false:=v7f
            have hb0:(0:Int)≤(ρ : Int):=Int.natCast_nonneg _
            have hb1:(ρ : Int)<(ruls.length:Int):=by omega
            have H2:=((H1.pick 4).setCell (off := ρ) (.pointer (some ⟨x.b,0,none⟩))).drew
            obtain ⟨W,hW⟩:∃ W,W=(wr.setCell ⟨g7,ρ,none⟩ (.pointer (some ⟨x.b,0,none⟩))).drew:=⟨_,rfl⟩
            rw [← hW] at H2
            have y3:W.cell? ⟨x.b,3,none⟩=some (.int .i64 (ρ : Int)):=St.stCell (x:=stS x.q.st x) (H2.pick 4) hx' h3c
            have y6:W.cell? ⟨Z.at_,6,none⟩=some (.slice (some ⟨g6,0,none⟩) ruls.length ruls.length):=(H2.pick 2).cells.1 6
            have yg:W.cell? ⟨g6,ρ,none⟩=some (.pointer (some ⟨t.b,0,none⟩)):=by rw [(H2.pick 5).cells.1 ρ,hg6]
            have K2:=(show St B w0 (star (pts t.b (sT t.q.k) ((stS vt t).q.cells (bP Z.at_) (t.i:Int))) (Osl (.slice t.q.ta t.q.tl.length t.q.tc) 266 1 t.q.tl.length t.q.tl)::_) W from (H2.pick 4).takeMap (f:=sqL Z.at_) ht').split
            have t7:W.cell? ⟨t.b,7,none⟩=some vt:=by rw [K2.cells.1 7,cells7_2 (q:=(stS vt t).q) ht2]; rfl
            have t7f:=K2.cells.2 7
            have e3:W.drew.cell? ⟨x.b,3,none⟩=some (.int .i64 (ρ : Int)):=y3
            have e6:W.drew.cell? ⟨Z.at_,6,none⟩=some (.slice (some ⟨g6,0,none⟩) ruls.length ruls.length):=y6
            have eg:W.drew.cell? ⟨g6,ρ,none⟩=some (.pointer (some ⟨t.b,0,none⟩)):=yg
            have et:W.drew.cell? ⟨t.b,7,none⟩=some vt:=t7
            have etf:W.drew.frozen? ⟨t.b,7,none⟩=false:=t7f
            have K3:=K2.setCell (off:=7) (.iface 271 (.pointer (some ⟨x.b,0,none⟩)))
            rw [set7_2 (q:=(stS vt t).q) ht2] at K3
            have K4:=St.putMap (f:=sqL Z.at_) (L:=L') (a:=stS (.iface 271 (.pointer (some ⟨x.b,0,none⟩))) (stS vt t)) (i:=ii) K3.join (List.getElem?_eq_some_iff.1 ht').1
            have hU2:=HU.out.step (T:=271) (p:=some ⟨x.b,0,none⟩) Hx.out hru hrρ ht ht2 ht'
            have H5:=Lib.hid (And.intro hU2 (((K4.pick 4).pick 4).pick 4).drew)
            have HW:=Lib.hid hW
            clear H1 H2 K2 K3 K4 hU2 h7 hru ht ht2 hrρ hg6 hx' ht' hvx h3c hu hW hρ
            go_wp2_with fail
            go_region
            all_goals
              rw [← HW.out]
              go_wp2_with fail
              go_region
              all_goals
                go_wp2_with fail
                first | rw [Hw.out] | rw [show ((j:Int)+1)=((j+1:Nat):Int) from by omega]
                exact ⟨⟨j+1,_,vs.set ρ (.pointer (some ⟨x.b,0,none⟩)),hlt,rfl,by rw [List.length_set]; exact hvs,H5.out.1,by rw [H5.out.1.zw]; exact H5.out.2⟩,measS hlt⟩
          · have hta:=as_7m hKO h7
            have HH:=Lib.hid H1
            have H7:=Lib.hid h7
            clear H1 hKO h7
            go_wp2_with fail
            first | rw [Hw.out] | rw [show ((j:Int)+1)=((j+1:Nat):Int) from by omega]
            have hU2:=HU.out.skip Hx.out H7.out
            exact ⟨⟨j+1,L',vs,hlt,rfl,hvs,hU2,by rw [hU2.zw]; exact HH.out⟩,measS hlt⟩
        · have hk1 : ¬ (j:Int)<(L.length:Int):=by omega
          have hkl:j=L.length:=by omega
          subst hkl
          have HH:=Lib.hid H1
          have HU:=Lib.hid hU
          clear H1 hU
          go_wp2_with fail
          go_end0
          exact ⟨rfl,L',HU.out,pos1,Hd.out,_,_,_,vs,by rw [HU.out.zw]; exact HH.out⟩
end Go.Proofs.YtbcngfgemjdllaaGreatDoor
