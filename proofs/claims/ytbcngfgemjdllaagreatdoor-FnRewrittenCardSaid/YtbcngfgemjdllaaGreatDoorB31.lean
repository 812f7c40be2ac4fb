/- Part 31: Z3, Z4, Z6, W2. -/
import Derived.RegionTactic
import Derived.ChangeAlike
import Derived.BigRegion
import Derived.Laws.MakeOwn
import Derived.Test.YtbcngfgemjdllaaGreatDoorB21
import Derived.Test.YtbcngfgemjdllaaGreatDoorB30
set_option linter.unusedVariables false
set_option linter.unusedSimpArgs false
section
namespace Go.Proofs.YtbcngfgemjdllaaGreatDoor
open Go.RowKit Go.Own
variable {B:Nat} {w0 w:World} {r:List HP}
theorem sl112:SlT Tryz.prog 112 169 1 16 .nilIface:=⟨by kernel_rfl,sl_inf' (by kernel_rfl),by kernel_rfl,by decide⟩
theorem na_num {k : Nat} (hk : KOk k) (b : Nat) (w : World) : (nilAhead 734 (ty k) (.pointer (some ⟨b, 0, none⟩)) "SetStateNumber").run Tryz.prog w = .ok (some false) w := by
  rcases hk.cases with rfl | rfl | rfl | rfl | rfl | rfl | rfl | rfl | rfl | rfl | rfl | rfl <;> kernel_rfl
theorem na_end {k : Nat} (hk : BOk k) (b : Nat) (w : World) : (nilAhead 734 (ty k) (.pointer (some ⟨b, 0, none⟩)) "loop.example/pub-tokensoflexers/pub/antlratn.setEndState").run Tryz.prog w = .ok (some false) w := by
  rcases hk.is with rfl | rfl | rfl <;> kernel_rfl
def ifV (k b:Nat):Value:=.iface (ty k) (.pointer (some ⟨b,0,none⟩))
set_option maxRecDepth 100000 in
set_option maxHeartbeats 4000000 in
theorem c120 {at_ b n c:Nat} {a:Option Addr} {q:Sq} {AC xs:List Value} (hk:KOk q.k) (hn:n<1000000) (ha:AC[9]? = some (.slice a n c))
    (H:St B w0 (sqP (.pointer none) (-1) b q::pts at_ 114 AC::Osl (.slice a n c) 169 1 n xs::r) w) :
    Calls Tryz.prog 120 #[.pointer (some ⟨at_,0,none⟩),ifV q.k b] w fun e w'=>e=.returned (.tuple #[])∧∃ a' c',
      St B w0 (sqP (bP at_) (n:Int) b q::pts at_ 114 (AC.set 9 (.slice a' (n+1) c'))::Osl (.slice a' (n+1) c') 169 1 (n+1) (xs++[ifV q.k b])::r) w':=by
  have H0:=H.split
  have hkk:=hk
  have H00:=Lib.hid H0
  have h1:=m_st_SetATN hk b
  have h2:=m_st_SetStateNumber hk b
  have h2n:=na_num hk b
  have hAC:∀ (W:World) (l:List HP),St B w0 (pts at_ 114 AC::l) W→W.cell? ⟨at_,9,none⟩=some (.slice a n c):=fun W l h=>by rw [h.cells.1 9,ha]
  have HAC:=Lib.hid hAC
  have Ha:=Lib.hid ha
  clear H H0 hk ha hAC
  unfold ifV
  generalize hty:ty q.k=T at h1 h2 h2n
  have Hty:=Lib.hid hty
  clear hty
  have hne:(T == 0)=false:=by rw [← Hty.out]; rcases hkk.cases with h | h | h | h | h | h | h | h | h | h | h | h <;> rw [h] <;> rfl
  clear hkk
  have hmf:∀ (fn:Fn) (first cap:Array Value) (w:World),(Instr.makeFunc fn first cap).run Tryz.prog w=.ok (.func fn first cap) w:=fun _ _ _ _=>rfl
  go_enter Tryz.func120,Tryz.ntmps120
  go_wp2_with (first
    | (go_at_call 290; refine (c290 (a:=at_) H00.out rfl).mono ?_; rintro e w1 ⟨rfl,h3⟩
       rw [cells_at] at h3
       have e9:=HAC.out _ _ (h3.pick 2)
       have e9d:w1.drew.cell? ⟨at_,9,none⟩=some (.slice a n c):=e9
       have H3:=Lib.hid h3
       clear h3))
  go_region_with
    (first
      | (go_at_call 293; refine (c293 (x:=(n:Int)) H3.out.drew rfl).mono ?_; rintro e w2 ⟨rfl,h4⟩
         rw [cells_num] at h4
         have H4:=Lib.hid h4
         clear h4))
  all_goals
    have e9':=HAC.out _ _ (H4.out.pick 2)
    have HA:=Lib.hid (((H4.out.alloc (ob 169 [.iface T (.pointer (some ⟨b,0,none⟩))])).pick 4).pick 1)
    go_wp2_with (first
      | (at_builtin; go_must (refine wpList_append1_st rfl _ _ rfl sl112 (g:=w2.heap.size) (news:=[.iface T (.pointer (some ⟨b,0,none⟩))]) HA.out rfl 1 rfl rfl rfl (by simp [Value.oneCell']) (by simp only [maxLen]; omega) (by omega) ?_)
         intro a5 c5 w5 h5
         have e9'':=HAC.out _ _ (h5.pick 3)
         have e9f:=(h5.pick 3).cells.2 9
         have H5:=Lib.hid h5
         clear h5))
    go_end0
    have H6:=(H5.out.pick 3).setCell (off:=9) (.slice a5 (n+1) c5)
    exact ⟨rfl,a5,c5,((H6.pick 3).pick 3).join⟩
end Go.Proofs.YtbcngfgemjdllaaGreatDoor
end
section
namespace Go.Proofs.YtbcngfgemjdllaaGreatDoor
open Go.RowKit Go.Own
variable {B:Nat} {w0 w:World} {r:List HP}
theorem run_mk {t e:TypeId} {sz by_:Nat} {z:Value} (h:SlT Tryz.prog t e sz by_ z) {l c:Nat} (hl:l≤c) (hc:c<1000000) (hb:by_≤1000) :
    ∃ zs:List Value,zs.length=c * sz∧(∀ j v,sz=1→z.cells=#[v]→zs[j]? = if j<c then some v else none)∧∀ w,(Instr.makeSlice t (.int .i64 (l:Int)) (.int .i64 (c:Int))).run Tryz.prog w=.ok (.slice (some ⟨w.heap.size,0,none⟩) l c) (w.alloc (ob e zs)):=by
  obtain ⟨i,h1,h2,h3,h4⟩:=h.inf
  refine ⟨(madeCells z.cells (c * sz)).toList,?_,?_,fun w => ?_⟩
  · simp [madeCells]
  · intro j v hs hz
    rw [hz,hs]
    by_cases hj:j<c
    · rw [if_pos hj]; simp [madeCells,hj,Nat.mod_one]
    · rw [if_neg hj]; simp [madeCells]; omega
  · have hbc:by_ * c≤1000 * 1000000:=Nat.mul_le_mul hb (by omega)
    have hbc2:(by_:Int) * (c:Int)≤281474976710656:=by
      rw [← Int.natCast_mul]; omega
    have:=run_make w (P:=Tryz.prog) t e i z h.und h1 h2 .i64 .i64 (l:Int) (c:Int) (by omega) (by omega) (by rw [h4]; exact hbc2) (by omega)
    rw [this,h3,Int.toNat_natCast,Int.toNat_natCast]
    simp [ob]
theorem rep_of {zs:List Value} {c:Nat} {v:Value} (h:∀ j,zs[j]? = if j<c then some v else none):zs=List.replicate c v:=by
  apply List.ext_getElem?
  intro j
  rw [h j,List.getElem?_replicate]
@[go_sem] theorem as_blk_hit {k:Nat} (hk:BOk k) (p:Value) (w:World):(Instr.typeAssert (.iface (ty k) p) 169 294 true).run Tryz.prog w=.ok (.tuple #[.iface (ty k) p,.bool true]) w:=by
  rcases hk.is with rfl | rfl | rfl <;> kernel_rfl
structure NBk (k:Nat):Prop where
  ok:KOk k
  n3:k≠3
  n4:k≠4
  n5:k≠5
def blkWant : Array (String × TypeId) := #[("AddTransition", 310), ("Equals", 576), ("GetATN", 252), ("GetEpsilonOnlyTransitions", 257), ("GetNextTokenWithinRule", 308), ("GetRuleIndex", 130), ("GetStateNumber", 130), ("GetStateType", 130), ("GetTransitions", 264), ("Hash", 130), ("SetATN", 253), ("SetNextTokenWithinRule", 577), ("SetRuleIndex", 148), ("SetStateNumber", 148), ("SetTransitions", 426), ("String", 558), ("loop.example/pub-tokensoflexers/pub/antlratn.getDecision", 130), ("loop.example/pub-tokensoflexers/pub/antlratn.getEndState", 319), ("loop.example/pub-tokensoflexers/pub/antlratn.getNonGreedy", 257), ("loop.example/pub-tokensoflexers/pub/antlratn.setDecision", 148), ("loop.example/pub-tokensoflexers/pub/antlratn.setEndState", 300), ("loop.example/pub-tokensoflexers/pub/antlratn.setNonGreedy", 302)]
@[go_sem] theorem as_blk_miss {k:Nat} (hk:NBk k) (p:Value) (w:World):(Instr.typeAssert (.iface (ty k) p) 169 294 true).run Tryz.prog w=.ok (.tuple #[.nilIface,.bool false]) w:=by
  have h3:=hk.n3
  have h4:=hk.n4
  have h5:=hk.n5
  rcases hk.ok.cases with rfl | rfl | rfl | rfl | rfl | rfl | rfl | rfl | rfl | rfl | rfl | rfl <;> first | contradiction | exact run_typeAssert_lacksB (want:=blkWant) (by kernel_rfl) (by kernel_rfl) (by kernel_rfl) _ _ _
theorem as_12 (p:Value) (w:World):(Instr.typeAssert (.iface (ty 12) p) 169 290 false).run Tryz.prog w=.ok p w:=run_assert_plain (e:=299) (by kernel_rfl)
structure LS where
  b:Nat
  i:Nat
  ar:Nat
  q:Sq
def ifL (x:LS):Value:=ifV x.q.k x.b
def sqL (a:Nat) (x:LS):HP:=sqP (bP a) (x.i:Int) x.b x.q
structure AtC where
  dts:Value
  la:Value
  mt:Nat
  mp:Value
  md:Value
  rst:Value
  rsp:Value
  rtt:Value
def AtC.cells (A:AtC) (sv:Value):List Value:=[A.dts,.int .i64 0,A.la,.int .i64 (A.mt:Int),A.mp,A.md,A.rst,A.rsp,A.rtt,sv]
structure ZC where
  bd:Nat
  bo:Nat
  da:Option Addr
  dn:Nat
  dc:Nat
  at_:Nat
def zwL (Z:ZC) (pos:Nat) (A:AtC) (sa:Option Addr) (sc:Nat) (L:List LS):List HP :=
  [pts Z.bd 251 (dzC Z.bo Z.da Z.dn Z.dc pos),pts Z.at_ 114 (A.cells (.slice sa L.length sc)),Osl (.slice sa L.length sc) 169 1 L.length (L.map ifL),stars (L.map (sqL Z.at_))]
structure LOf (L:List LS) (sts:List (Nat × Nat × Nat)):Prop where
  len:L.length=sts.length
  at_:∀ (i:Nat) (x:LS) (s:Nat × Nat × Nat),L[i]? = some x→sts[i]? = some s→x.i=i∧x.ar=s.2.2∧x.q=sq0 s.1 s.2.1
theorem LOf.nil:LOf [] []:=⟨rfl,fun i x s h=>by simp at h⟩
theorem LOf.push {L:List LS} {sts:List (Nat × Nat × Nat)} (h:LOf L sts) (b:Nat) (s:Nat × Nat × Nat):LOf (L++[⟨b,L.length,s.2.2,sq0 s.1 s.2.1⟩]) (sts++[s]):=⟨by simp [h.len],fun i x s' h1 h2=>by
  by_cases hi:i<L.length
  · rw [List.getElem?_append_left hi] at h1
    rw [List.getElem?_append_left (by rw [← h.len]; exact hi)] at h2
    exact h.at_ i x s' h1 h2
  · have hi2:i=L.length:=by
      have:=(List.getElem?_eq_some_iff.1 h1).1
      simp at this
      omega
    subst hi2
    rw [List.getElem?_append_right (Nat.le_refl _),Nat.sub_self] at h1
    rw [h.len,List.getElem?_append_right (Nat.le_refl _),Nat.sub_self] at h2
    simp at h1 h2
    subst h1 h2
    exact ⟨rfl,rfl,rfl⟩⟩
def is12 (x:LS):Bool:=x.q.k == 12
def isB (x:LS):Bool:=x.q.k == 3 || x.q.k == 4 || x.q.k == 5
def f5 (x:LS):List Value:=[.pointer (some ⟨x.b,0,none⟩),.int .i64 (x.ar:Int)]
def f6 (x:LS):List Value:=[ifL x,.int .i64 (x.ar:Int)]
theorem filtP_push {p:LS→Bool} (L:List LS) (x:LS):(L++[x]).filter p=L.filter p++(if p x then [x] else []):=by
  rw [List.filter_append]
  congr 1
  by_cases h:p x <;> simp [h]
theorem sl286:SlT Tryz.prog 286 292 2 16 (.agg #[.pointer none,.int .i64 0]):=⟨by kernel_rfl,sl_inf' (by kernel_rfl),by kernel_rfl,by decide⟩
theorem sl287:SlT Tryz.prog 287 297 2 24 (.agg #[.nilIface,.int .i64 0]):=⟨by kernel_rfl,sl_inf' (by kernel_rfl),by kernel_rfl,by decide⟩
theorem rd_head {xs ys:List Int} {pos:Nat} {y:Int} (h:xs.drop pos=y::ys):xs[pos]? = some y∧xs.drop (pos+1)=ys:=by
  constructor
  · have:(xs.drop pos)[0]? = some y:=by rw [h]; rfl
    rwa [List.getElem?_drop,Nat.add_zero] at this
  · rw [← List.drop_drop,h]; rfl
end Go.Proofs.YtbcngfgemjdllaaGreatDoor
end
section
namespace Go.Proofs.YtbcngfgemjdllaaGreatDoor
open Go.RowKit Go.Own
def gj (F:List LS) (g:LS→LS) (j:Nat) (x:LS):LS:=if x.i ∈ (F.take j).map (·.i) then g x else x
def Num (L:List LS):Prop:=∀ (i:Nat) (x:LS),L[i]? = some x→x.i=i
theorem Num.mem {L:List LS} (h:Num L) {x:LS} (hx:x ∈ L):L[x.i]? = some x:=by
  obtain ⟨n,hn⟩:=List.mem_iff_getElem?.1 hx
  rw [h n x hn]; exact hn
theorem Num.nodup {L:List LS} (h:Num L):L.Nodup:=by
  rw [List.Nodup,List.pairwise_iff_getElem]
  intro i j hi hj hij e
  have h1:=h i _ (List.getElem?_eq_getElem hi)
  have h2:=h j _ (List.getElem?_eq_getElem hj)
  rw [e] at h1
  omega
theorem gj_zero (F:List LS) (g:LS→LS) (L:List LS):L.map (gj F g 0)=L:=by
  have:gj F g 0=id:=by funext x; simp [gj]
  rw [this,List.map_id]
theorem gj_step {L:List LS} {p:LS→Bool} {g:LS→LS} {j:Nat} {y:LS} (h:Num L) (hy:(L.filter p)[j]? = some y) :
    L[y.i]? = some y∧p y=true∧(L.map (gj (L.filter p) g j))[y.i]? = some y∧(L.map (gj (L.filter p) g j)).set y.i (g y)=L.map (gj (L.filter p) g (j+1)):=by
  have hm:=List.mem_of_getElem? hy
  obtain ⟨hL,hp⟩:=List.mem_filter.1 hm
  have h1:=h.mem hL
  have hnd:(L.filter p).Nodup:=h.nodup.filter p
  have hno:y.i ∉ ((L.filter p).take j).map (·.i):=by
    intro hc
    obtain ⟨x,hx,hxi⟩:=List.mem_map.1 hc
    have hxL:=(List.mem_filter.1 (List.mem_of_mem_take hx)).1
    have h2:=h.mem hxL
    rw [hxi,h1] at h2
    cases h2
    obtain ⟨n,hn⟩:=List.mem_iff_getElem?.1 hx
    rw [List.getElem?_take] at hn
    split at hn
    · rename_i hnj
      obtain ⟨ha,ha'⟩:=List.getElem?_eq_some_iff.1 hn
      obtain ⟨hb,hb'⟩:=List.getElem?_eq_some_iff.1 hy
      rw [List.Nodup,List.pairwise_iff_getElem] at hnd
      exact hnd n j ha hb hnj (by rw [ha',hb'])
    · cases hn
  refine ⟨h1,hp,?_,?_⟩
  · rw [List.getElem?_map,h1]
    show some (gj _ _ _ _)=_
    rw [gj,if_neg hno]
  · apply List.ext_getElem?
    intro i
    have htk:(L.filter p).take (j+1)=(L.filter p).take j++[y]:=by rw [List.take_add_one,hy]; rfl
    by_cases hi:y.i=i
    · subst hi
      rw [List.getElem?_set_self (by rw [List.length_map]; exact (List.getElem?_eq_some_iff.1 h1).1),List.getElem?_map,h1]
      show _=some (gj _ _ _ _)
      rw [gj,htk,if_pos (by simp)]
    · rw [List.getElem?_set_ne hi,List.getElem?_map,List.getElem?_map]
      cases hx:L[i]? with
      | none=>rfl
      | some x =>
        have hxi:=h i x hx
        show some (gj _ _ _ _)=some (gj _ _ _ _)
        have hiff:x.i ∈ ((L.filter p).take (j+1)).map (·.i) ↔ x.i ∈ ((L.filter p).take j).map (·.i):=by
          rw [htk]; simp only [List.map_append,List.mem_append,List.map_cons,List.map_nil,List.mem_singleton]
          constructor
          · rintro (h | h)
            · exact h
            · omega
          · exact Or.inl
        unfold gj
        by_cases hc:x.i ∈ ((L.filter p).take j).map (·.i)
        · rw [if_pos hc,if_pos (hiff.2 hc)]
        · rw [if_neg hc,if_neg (fun h=>hc (hiff.1 h))]
theorem gj_end {L:List LS} {p:LS→Bool} {g:LS→LS} (h:Num L):L.map (gj (L.filter p) g (L.filter p).length)=L.map fun x=>if p x then g x else x:=by
  apply List.map_congr_left
  intro x hx
  unfold gj
  rw [List.take_length]
  have hiff:x.i ∈ (L.filter p).map (·.i) ↔ p x=true:=by
    constructor
    · intro hc
      obtain ⟨y,hy,hyi⟩:=List.mem_map.1 hc
      obtain ⟨hyL,hpy⟩:=List.mem_filter.1 hy
      have h1:=h.mem hyL
      have h2:=h.mem hx
      rw [hyi,h2] at h1
      cases h1
      exact hpy
    · intro hp
      exact List.mem_map.2 ⟨x,List.mem_filter.2 ⟨hx,hp⟩,rfl⟩
  by_cases hp:p x=true
  · rw [if_pos (hiff.2 hp),if_pos hp]
  · rw [if_neg (fun h=>hp (hiff.1 h)),if_neg hp]
theorem Num.map {L:List LS} {f:LS→LS} (h:Num L) (hf:∀ x,(f x).i=x.i):Num (L.map f):=fun i x hx=>by
  rw [List.getElem?_map] at hx
  cases hl:L[i]? with
  | none=>rw [hl] at hx; cases hx
  | some y=>rw [hl] at hx; cases hx; rw [hf]; exact h i y hl
theorem LOf.num {L:List LS} {sts:List (Nat × Nat × Nat)} (h:LOf L sts):Num L:=fun i x hx=>by
  have hlt:=(List.getElem?_eq_some_iff.1 hx).1
  exact (h.at_ i x _ hx (List.getElem?_eq_getElem (by rw [← h.len]; exact hlt))).1
def lk (L:List LS) (n:Nat):Value:=match L[n]? with | some y=>ifL y | none=>.nilIface
def lkp (L:List LS) (n:Nat):Value:=match L[n]? with | some y=>.pointer (some ⟨y.b,0,none⟩) | none=>.pointer none
def lbS (L:List LS) (x:LS):LS := { x with q := { x.q with lb:=lk L x.ar } }
def enS (L:List LS) (x:LS):LS := { x with q := { x.q with en:=lkp L x.ar } }
theorem filt_map {p:LS→Bool} {f:LS→LS} (hf:∀ x,p (f x)=p x) (hfx:∀ x,p x=true→f x=x) (L:List LS):(L.map f).filter p=L.filter p:=by
  induction L with
  | nil=>rfl
  | cons x L ih =>
    rw [List.map_cons,List.filter_cons,List.filter_cons,ih,hf]
    by_cases hp:p x=true
    · rw [if_pos hp,if_pos hp,hfx x hp]
    · rw [if_neg hp,if_neg hp]
def lbL (L:List LS):List LS:=L.map fun x=>if is12 x then lbS L x else x
def finS (L:List LS):List LS:=(lbL L).map fun x=>if isB x then enS (lbL L) x else x
theorem zw_map {Z:ZC} {pos:Nat} {A:AtC} {sa:Option Addr} {sc:Nat} {L:List LS} {f:LS→LS} (hf:∀ x,ifL (f x)=ifL x):zwL Z pos A sa sc (L.map f) =
    [pts Z.bd 251 (dzC Z.bo Z.da Z.dn Z.dc pos),pts Z.at_ 114 (A.cells (.slice sa L.length sc)),Osl (.slice sa L.length sc) 169 1 L.length (L.map ifL),stars ((L.map f).map (sqL Z.at_))]:=by
  unfold zwL
  rw [List.length_map,List.map_map,show ifL ∘ f=ifL from funext hf]
theorem gj_if {F:List LS} {g:LS→LS} {j:Nat} (hg:∀ x,ifL (g x)=ifL x) (x:LS):ifL (gj F g j x)=ifL x:=by
  unfold gj; split
  · exact hg x
  · rfl
theorem cells7_12 {q:Sq} {a:Value} {n:Int} (h:q.k=12):(q.cells a n)[7]? = some q.lb:=by
  unfold Sq.cells Sq.ex
  rw [h]; rfl
theorem set7_12 {q:Sq} {a v:Value} {n:Int} (h:q.k=12):(q.cells a n).set 7 v=({ q with lb:=v } : Sq).cells a n:=by
  unfold Sq.cells Sq.ex
  simp only [h]
  rfl
theorem cells9_B {q:Sq} {a:Value} {n:Int} (h:BOk q.k):(q.cells a n)[9]? = some q.en:=by
  unfold Sq.cells Sq.ex
  rcases h.is with h | h | h <;> rw [h] <;> rfl
theorem set9_B {q:Sq} {a v:Value} {n:Int} (h:BOk q.k):(q.cells a n).set 9 v=({ q with en:=v } : Sq).cells a n:=by
  unfold Sq.cells Sq.ex
  rcases h.is with h | h | h <;> simp only [h] <;> rfl
end Go.Proofs.YtbcngfgemjdllaaGreatDoor
end
section
namespace Go.Proofs.YtbcngfgemjdllaaGreatDoor
open Go.RowKit Go.Own
theorem RdX.old {B:Nat} {w0:World} {P:HP} {a:Option Addr} {xs:List Int} (hB:B=w0.heap.size) (h:RowAt w0 a (i64L xs)):RdX B w0 P a xs:=⟨fun hne=>by
  obtain ⟨g,e,hc⟩:=h (by intro h; apply hne; simpa [i64L] using h)
  refine ⟨g,e,fun l w H j x hj => ?_⟩
  have h1:=hc j (.int .i64 x) (by simp [i64L,hj])
  have hlt:g<w0.heap.size:=World.block_lt_of_cell? _ _ h1
  rw [H.old.1 g j (by omega)]; exact h1⟩
theorem OutW.top {B:Nat} {w0 w:World} {b:Nat} {ys:List Int} {r:List HP} (H:OutW B w0 b ys r w):OutW B w0 b ys (Go.Own.top::r) w:=by
  obtain ⟨a,c,H⟩:=H.ex
  exact ⟨a,c,(show St B w0 (Go.Own.top::pts b 124 [.slice a ys.length c]::Osl (.slice a ys.length c) 21 1 ys.length (i32 ys)::r) w from H.nilStars).perm ((List.Perm.swap _ _ _).trans ((List.Perm.swap _ _ _).cons _))⟩
def seS (x:Nat × Nat × Nat):List Int:=(x.1:Int)::(x.2.1:Int)::(if x.1=12∨x.1=3∨x.1=4∨x.1=5 then [(x.2.2:Int)] else [])
def ruI (x:Nat × Nat):List Int:=[(x.1:Int),(x.2:Int)]
def edI (d:Lx.Ed):List Int:=[(d.src:Int),(d.to:Int),d.kind,d.a1,d.a2,0]
def inI (n:Nat):List Int:=[(n:Int)]
def ruC (x:Nat × Nat):List Value:=[.int .i64 (x.1:Int),.int .i64 (x.2:Int)]
def serN (S:BS) (ruls:List (Nat × Nat)) (mt:Nat):List Int :=
  [4,0,(mt:Int),(S.sts.length:Int)]++S.sts.flatMap seS++[0]++[]++[0]++[]++[(ruls.length:Int)]++ruls.flatMap ruI++[1]++[0]++[0]++[(S.ed.length:Int)]++S.ed.flatMap edI++[(S.dc.length:Int)]++S.dc.flatMap inI++[0]
structure GV where
  a1:Option Addr
  c1:Nat
  a2:Option Addr
  c2:Nat
  a3:Option Addr
  c3:Nat
  a4:Option Addr
  c4:Nat
  a5:Option Addr
  c5:Nat
structure GrV (w:World) (V:GV) (S:BS) (ruls:List (Nat × Nat)):Prop where
  r1:RowAt w V.a1 (S.sts.flatMap stC)
  r2:RowAt w V.a2 (ruls.flatMap ruC)
  r3:RowAt w V.a3 (i64L [0])
  r4:RowAt w V.a4 (S.ed.flatMap edC)
  r5:RowAt w V.a5 (S.dc.flatMap inC)
theorem GrV.mono {w w':World} {V:GV} {S:BS} {ruls:List (Nat × Nat)} (h:GrV w V S ruls) (hb:Below w.heap.size w w'):GrV w' V S ruls:=⟨h.r1.mono hb,h.r2.mono hb,h.r3.mono hb,h.r4.mono hb,h.r5.mono hb⟩
def GV.cells (V:GV) (S:BS) (ruls:List (Nat × Nat)) (mt:Nat):List Value:=[.bool true,.int .i64 (mt:Int),.slice V.a1 S.sts.length V.c1,.slice none 0 0,.slice none 0 0,.slice V.a2 ruls.length V.c2,.slice V.a3 1 V.c3,.slice none 0 0,.slice V.a4 S.ed.length V.c4,.slice V.a5 S.dc.length V.c5,.slice none 0 0]
theorem inC_i64 (l:List Nat):l.flatMap inC=i64L (l.flatMap inI):=by
  induction l with
  | nil=>rfl
  | cons x l ih=>simp only [List.flatMap_cons,ih,i64L,List.map_append]; rfl
structure SmN (S:BS) (ruls:List (Nat × Nat)) (mt:Nat):Prop where
  n1:S.sts.length<1000000
  n2:ruls.length<1000000
  n4:S.ed.length<1000000
  n5:S.dc.length<1000000
  m:mt<1000000
  s:∀ x ∈ S.sts,x.1≤12∧1≤x.1∧x.2.1<1000000∧x.2.2<1000000
  r:∀ x ∈ ruls,x.1<1000000∧x.2<1000000
  e:∀ d ∈ S.ed,d.src<1000000∧d.to<1000000∧0≤d.kind∧d.kind≤5∧0≤d.a1∧d.a1≤127∧0≤d.a2∧d.a2≤127
  d:∀ x ∈ S.dc,x<1000000
theorem seS_len (x:Nat × Nat × Nat):(seS x).length≤3:=by unfold seS; split <;> simp
theorem flat_le {α : Type} {f : α → List Int} {n:Nat} (hf:∀ x,(f x).length≤n) (l:List α):(l.flatMap f).length≤l.length * n:=by
  induction l with
  | nil=>simp
  | cons x l ih=>have:=hf x; simp only [List.flatMap_cons,List.length_append,List.length_cons,Nat.add_mul]; omega
theorem flat_take_le {α : Type} {f : α → List Int} {n:Nat} (hf:∀ x,(f x).length≤n) (l:List α) (k:Nat):((l.take k).flatMap f).length≤l.length * n:=by
  have h1:=flat_le hf (l.take k)
  have h2:(l.take k).length≤l.length:=by simp; omega
  exact Nat.le_trans h1 (Nat.mul_le_mul_right _ h2)
theorem flat_takeI {α : Type} {f : α → List Int} {l:List α} {k:Nat} {x : α} (h:l[k]? = some x):(l.take k).flatMap f++f x=(l.take (k+1)).flatMap f:=by
  rw [List.take_add_one,h]
  simp [List.flatMap_append]
def SeRel {α : Type} (B:Nat) (w0:World) (b:Nat) (pre:List Int) (f : α → List Int) (l:List α) (r:List HP) (i:Value) (wr:World):Prop:=∃ k:Nat,k≤l.length∧i=.int .i64 k∧OutW B w0 b (pre++(l.take k).flatMap f) r wr
theorem put65 {B:Nat} {w0 W:World} {b g:Nat} {ys:List Int} {r:List HP} (xs:List Int) (hg:W.heap.size=g) (hl:ys.length+xs.length<1000000000) (hx:∀ x ∈ xs,-2147483648≤x∧x<2147483648) (H:OutW B w0 b ys r W) :
    Calls Tryz.prog 65 #[.slice (some ⟨g,0,none⟩) xs.length xs.length,.pointer (some ⟨b,0,none⟩)] (W.alloc (ob 3 (i64L xs))) fun e w'=>e=.returned (.tuple #[])∧OutW B w0 b (ys++xs) r w':=by
  subst hg
  refine (c65 rfl hl hx RdX.new (H.alloc 3 (i64L xs))).mono ?_
  rintro e w' ⟨rfl,H1⟩
  exact ⟨rfl,H1.drop⟩
theorem put65o {w0 W:World} {b c n:Nat} {a:Option Addr} {ys:List Int} {r:List HP} (xs:List Int) (hn:n=xs.length) (hl:ys.length+xs.length<1000000000) (hx:∀ x ∈ xs,-2147483648≤x∧x<2147483648) (hr:RowAt w0 a (i64L xs)) (H:OutW w0.heap.size w0 b ys r W) :
    Calls Tryz.prog 65 #[.slice a n c,.pointer (some ⟨b,0,none⟩)] W fun e w'=>e=.returned (.tuple #[])∧OutW w0.heap.size w0 b (ys++xs) r w':=by
  refine (c65 hn hl hx (RdX.old rfl hr) H.top).mono ?_
  rintro e w' ⟨rfl,H1⟩
  exact ⟨rfl,H1.drop⟩
end Go.Proofs.YtbcngfgemjdllaaGreatDoor
end
